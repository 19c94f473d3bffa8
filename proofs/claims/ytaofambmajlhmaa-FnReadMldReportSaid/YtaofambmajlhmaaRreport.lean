/-
  impl.told of mldreport2.
-/
import Derived.Test.YtaofambmajlhmaaD2report
import Derived.Test.YtaofambmajlhmaaClone2
import Derived.Test.YtaofambmajlhmaaApp
import Derived.Test.YtaofambmajlhmaaOn
import Derived.Test.YtaofambmajlhmaaTa
import Derived.Deep.DeepCutAuto
namespace Go.Proofs.Ytaofambmajlhmaa
open Go Go.RowKit

set_option maxRecDepth 100000 in
set_option maxHeartbeats 8000000 in
theorem told_report {X : Nat} {pl : Value} {l : Lay} {w : World} (hX : IsReport w X pl l) (hlen : l.payload.length ≤ 140737488355328) :
    Calls Try.prog 36 #[.iface 104 (.pointer (some ⟨X, 0, none⟩)), pl] w fun e' w' => ∃ v, e' = .returned (.tuple #[v, .bool true]) ∧ LayOn w' (fun b => w.heap.size ≤ b) v l ∧ Below w.heap.size w w' := by
  obtain ⟨m, iv, ps, pay, rfl, _, hp, c2, c3, hI, b1, b2⟩ := hX
  obtain ⟨pI, cI, hiv⟩ := hI.form
  subst hiv
  have lX : X < w.heap.size := World.block_lt_of_cell? _ _ c2
  have HP := Lib.hid hp
  have HI := Lib.hid hI
  clear hp hI
  have a0 := ta8_0
  have a1 := ta8_1
  have a2 := ta8_2
  have a3 := ta8_3
  have a4 := ta8_4
  have a5 := ta8_5
  have a6 := ta8_6
  have a7 := ta8_7
  have a8 := ta8_8
  go_enter Try.func36, Try.ntmps36
  go_wp2_with fail
  refine (clone_c (HP.out.keeps (by repeat (first | with_reducible assumption | with_reducible exact Keeps.refl _ _ | with_reducible refine Keeps.drew ?_ | with_reducible refine Keeps.alloc ?_ _ | with_reducible refine Keeps.setCell ?_ ?_ _ | omega | focus (simp; done) | focus (simp; omega)))) hlen).mono ?_
  rintro e1 w1 ⟨q, cq, rfl, hq, hb1⟩
  have HQ := Lib.hid hq
  clear hq
  have k2 := cell_keep hb1 c2
  have k3 := cell_keep hb1 c3
  obtain ⟨r0, r1, r2, r3⟩ := cells4 hb1
  obtain ⟨f0, f1, f2, f3⟩ := frozen4 hb1
  have lw := size_new hb1
  have lX1 : X < w1.heap.size := by omega
  have HB := Lib.hid hb1
  clear hb1 c2 c3
  go_wp2_with fail
  refine wp_gen (fun W => (W.cell? ⟨w1.heap.size, 0, none⟩ = some (.slice (some ⟨w1.heap.size + 1, 0, none⟩) 1 1) ∧ W.cell? ⟨w1.heap.size, 1, none⟩ = some (.slice none 0 0) ∧ W.cell? ⟨w1.heap.size, 2, none⟩ = some (.slice none 0 0) ∧ W.cell? ⟨w1.heap.size, 3, none⟩ = some (.slice q pay.length cq)) ∧ (∀ j, W.frozen? ⟨w1.heap.size, j, none⟩ = false) ∧ w1.heap.size < W.heap.size ∧
    (SN W (fun b => w.heap.size < b ∧ b ≠ w1.heap.size) (.slice (some ⟨w1.heap.size + 1, 0, none⟩) 1 1) [m] ∧ SD W (fun b => w.heap.size < b ∧ b ≠ w1.heap.size) (.slice none 0 0) [] ∧ SB W (fun b => w.heap.size < b ∧ b ≠ w1.heap.size) (.slice q pay.length cq) pay) ∧ (W.cell? ⟨w.heap.size, 0, none⟩ = some (.slice none 0 0) ∧ W.cell? ⟨w.heap.size, 1, none⟩ = some (.slice none 0 0) ∧ W.cell? ⟨w.heap.size, 2, none⟩ = some (.slice none 0 0) ∧ W.cell? ⟨w.heap.size, 3, none⟩ = some (.slice none 0 0)) ∧ (W.frozen? ⟨w.heap.size, 0, none⟩ = false ∧ W.frozen? ⟨w.heap.size, 1, none⟩ = false ∧ W.frozen? ⟨w.heap.size, 2, none⟩ = false ∧ W.frozen? ⟨w.heap.size, 3, none⟩ = false) ∧ Keeps (fun b => b < w.heap.size) w W ∧ Below w.heap.size w W) ?F (fun W hW => ?_)
  case F =>
    have h0 := below_new HB.out
    have q1 : Keeps (fun b => b < w.heap.size) w w1 := Keeps.of_below h0
    have hs := HQ.out
    have hs2 : SB w1 (fun b => w.heap.size < b ∧ b < w1.heap.size) (.slice q pay.length cq) pay := hs.imp (fun b hbl hb => ⟨by simp at hb; omega, hbl⟩)
    exact ⟨⟨by go_simp, by go_simp, by go_simp, by go_simp⟩, fun j => by go_simp, by first | omega | focus (simp; done) | (simp; omega), ⟨IsSl.block (cs := #[.int .u64 m]) (e := 39) (f := (0, 0)) (by (try simp only [heap_drew]); repeat (first | (with_reducible refine heap_last ?_; focus (simp; done)) | with_reducible refine heap_past ?_ | (with_reducible refine heap_set ?_ ?_; focus (first | omega | (simp; done) | (simp; omega))) | with_reducible assumption)) ⟨by omega, by omega⟩ (by omega), SD.nil _ _, (hs2.keeps (by repeat (first | with_reducible assumption | with_reducible exact Keeps.refl _ _ | with_reducible refine Keeps.drew ?_ | with_reducible refine Keeps.alloc ?_ _ | with_reducible refine Keeps.setCell ?_ ?_ _ | omega | focus (simp; done) | focus (simp; omega)))).imp (fun b _ hb => ⟨by omega, by omega⟩)⟩, ⟨by go_simp, by go_simp, by go_simp, by go_simp⟩, ⟨by go_simp, by go_simp, by go_simp, by go_simp⟩, (by repeat (first | with_reducible assumption | with_reducible exact Keeps.refl _ _ | with_reducible refine Keeps.drew ?_ | with_reducible refine Keeps.alloc ?_ _ | with_reducible refine Keeps.setCell ?_ ?_ _ | omega | focus (simp; done) | focus (simp; omega))), (by repeat (first | with_reducible assumption | with_reducible refine Below.drew ?_ | with_reducible refine Below.alloc ?_ ?_ _ | with_reducible refine Below.setCell ?_ ?_ _ | with_reducible exact Nat.le_refl _ | omega | focus (simp; done) | focus (simp; omega)))⟩
  obtain ⟨⟨lc0, lc1, lc2, lc3⟩, lf, lL, ⟨hN, hD2, hP2⟩, ⟨wr0, wr1, wr2, wr3⟩, ⟨wf0, wf1, wf2, wf3⟩, kW, bW⟩ := hW
  clear k2 r0 r1 r2 r3 f0 f1 f2 f3
  have hF0 : Fills W W (w1.heap.size) W.heap.size (fun b => w.heap.size < b ∧ b ≠ w1.heap.size) (.slice none 0 0) (ps.take 0) := Fills.start lL (Nat.le_refl _) lc2 lf
  have HN3 := Lib.hid (And.intro hN (And.intro hD2 hP2))
  have HK := Lib.hid (And.intro kW bW)
  have wL : w.heap.size < W.heap.size := World.block_lt_of_cell? _ _ wr0
  clear hN hD2 hP2 kW bW lf
  have HF0 := Lib.hid hF0
  clear hF0 
  go_loopw [21, 22, 24, 346, 371] (fun _ _ _ i _ wr => ∃ k : Nat, k ≤ ps.length ∧ i = .int .i64 (k : Int) ∧ ∃ v, Fills W wr w1.heap.size W.heap.size (fun b => w.heap.size < b ∧ b ≠ w1.heap.size) v (ps.take k)) (fun _ _ _ i _ _ => ps.length - (intOf i).toNat)
  case atStart => exact ⟨0, Nat.zero_le _, rfl, _, HF0.out⟩
  case round =>
    obtain ⟨k, hk, rfl, v, hF⟩ := hrel
    have HF := Lib.hid hF
    have lLr : w1.heap.size < wr.heap.size := Nat.lt_of_lt_of_le hF.lt hF.le
    have lwr : w.heap.size < wr.heap.size := Nat.lt_of_lt_of_le wL hF.le
    have leW := hF.le
    have hown := hF.rows.own
    have ef := hF.froz 2
    obtain ⟨p, c', hv⟩ := hF.rows.form
    rw [show (ps.take k).length = k by simp; omega] at hv
    subst hv
    have e2 := hF.parts
    have e0 := hF.other 0 _ (by decide) lc0
    have e1 := hF.other 1 _ (by decide) lc1
    have e3 := hF.other 3 _ (by decide) lc3
    have v0 := hF.keep.cell (b := w.heap.size) (by constructor <;> omega) wr0
    have v1 := hF.keep.cell (b := w.heap.size) (by constructor <;> omega) wr1
    have v2 := hF.keep.cell (b := w.heap.size) (by constructor <;> omega) wr2
    have v3 := hF.keep.cell (b := w.heap.size) (by constructor <;> omega) wr3
    have y0 := hF.keep.frozen (b := w.heap.size) (by constructor <;> omega) wL wf0
    have y1 := hF.keep.frozen (b := w.heap.size) (by constructor <;> omega) wL wf1
    have y2 := hF.keep.frozen (b := w.heap.size) (by constructor <;> omega) wL wf2
    have y3 := hF.keep.frozen (b := w.heap.size) (by constructor <;> omega) wL wf3
    have HO := Lib.hid hown
    have HKG := Lib.hid ((HK.out.1.trans (hF.keep.imp (fun b hb => ⟨by omega, by omega⟩ : ∀ b, b < w.heap.size → b < W.heap.size ∧ b ≠ w1.heap.size))))
    clear hF hown
    by_cases hlt : k < ps.length
    · obtain ⟨gI, cI', cs, p0, hiv, hgI, -, hdk, hcs, t, a, nn, mv, iv, av, ma, ips, ab, rfl, hp0, hma, hips, hab, bt, ba, bn, bl1, bl2, bl3, bl4⟩ := HI.out.get hlt
      simp only [Value.slice.injEq] at hiv
      obtain ⟨rfl, -, rfl⟩ := hiv
      have hck : ∀ i v, [Value.int .u8 t, .int .u8 a, .int .u16 nn, mv, iv, av][i]? = some v → wr.cell? ⟨gI, k * 6 + i, none⟩ = some v := fun i v hv => HKG.out.cell hgI (hcs i v hv)
      have HMA := Lib.hid ((hma.imp (fun b hb _ => hb : ∀ b, b < w.heap.size → True → b < w.heap.size)).keeps HKG.out)
      have HIP := Lib.hid ((hips.imp (fun b hb _ => hb : ∀ b, b < w.heap.size → True → b < w.heap.size)).keeps HKG.out)
      have HAB := Lib.hid ((hab.imp (fun b hb _ => hb : ∀ b, b < w.heap.size → True → b < w.heap.size)).keeps HKG.out)
      obtain ⟨p3, q3, rfl, -⟩ := hma
      obtain ⟨-, -, ⟨p4, q4, rfl, -⟩, -⟩ := hips
      obtain ⟨p5, q5, rfl, -⟩ := hab
      have hck0 : wr.cell? ⟨gI, k * 6, none⟩ = some (.int .u8 t) := hck 0 _ rfl
      have hck1 : wr.cell? ⟨gI, k * 6 + 1, none⟩ = some (.int .u8 a) := hck 1 _ rfl
      have hck2 : wr.cell? ⟨gI, k * 6 + 2, none⟩ = some (.int .u16 nn) := hck 2 _ rfl
      have hck3 : wr.cell? ⟨gI, k * 6 + 3, none⟩ = some (.slice p3 ma.length q3) := hck 3 _ rfl
      have hck4 : wr.cell? ⟨gI, k * 6 + 4, none⟩ = some (.slice p4 ips.length q4) := hck 4 _ rfl
      have hck5 : wr.cell? ⟨gI, k * 6 + 5, none⟩ = some (.slice p5 ab.length q5) := hck 5 _ rfl
      have hkI : ((k : Nat) : Int) < ((ps.length : Nat) : Int) := by omega
      have HDK := Lib.hid hdk
      have HP0 := Lib.hid hp0
      have lLr1 : w1.heap.size < wr.heap.size + 1 := by omega
      have lgI : gI < wr.heap.size := by omega
      have lgI1 : gI < wr.heap.size + 1 := by omega
      clear hcs hck hdk hp0
      go_upto_region 51 with fail
      go_cut [22] (fun s wx => ∃ (P NB : Nat) (v : Value), s = .pointer (some ⟨P, 0, none⟩) ∧ PartAt wr wx (.cells #[.int .u8 t, .int .u8 a, .int .u16 nn, .slice p3 ma.length q3, .slice p4 ips.length q4, .slice p5 ab.length q5] 110 (0, 0)) P NB [t, a, nn, (ips.length : Int)] v ma)
      case first =>
        refine wp_region_same [19] (.q 0 (.q 1 (.q 2 (.q 3 (.q 4 (.q 5 (.q 6 (.q 7 (.q 8 (.q 9 (.q 10 (.q 14 (.q 15 (.l 11 (.q 12 (.l 13 (.l 16 (.q 17 (.l 18 (.l 19 .done .stop) .stop)) (.l 18 (.l 16 (.q 17 (.l 19 .done .stop)) .stop) .stop)) (.l 16 (.l 13 (.q 17 (.l 18 (.l 19 .done .stop) .stop)) (.l 18 (.l 13 (.q 17 (.l 19 .done .stop)) .stop) .stop)) (.l 18 (.l 13 (.l 16 (.q 17 (.l 19 .done .stop)) .stop) (.l 16 (.l 13 (.q 17 (.l 19 .done .stop)) .stop) .stop)) .stop)))) (.l 16 (.l 11 (.q 12 (.l 13 (.q 17 (.l 18 (.l 19 .done .stop) .stop)) (.l 18 (.l 13 (.q 17 (.l 19 .done .stop)) .stop) .stop))) (.l 18 (.l 11 (.q 12 (.l 13 (.q 17 (.l 19 .done .stop)) .stop)) .stop) .stop)) (.l 18 (.l 11 (.q 12 (.l 13 (.l 16 (.q 17 (.l 19 .done .stop)) .stop) (.l 16 (.l 13 (.q 17 (.l 19 .done .stop)) .stop) .stop))) (.l 16 (.l 11 (.q 12 (.l 13 (.q 17 (.l 19 .done .stop)) .stop)) .stop) .stop)) .stop)))))))))))))))) (by kernel_rfl) (by kernel_rfl) (fun _ _ d _ _ h => by cases d <;> exact h) (by simp only [Ord.fill, nthOp]; rfl) ?_; intro hSm
        repeat
          first | refine lexO_pass rfl ?_ | (refine lexO_take2 ?_ rfl (by kernel_rfl) (by with_reducible assumption) (fun w' hS K Q' hK => ?_) ?_; rotate_left; focus (have hS2 := hS.2; clear hS; go_wp2_with fail; exact hK))
        refine lexO_do rfl (fun K hK => ?_) (lexO_do rfl (fun K hK => ?_) (lexO_do rfl (fun K hK => ?_) lexO_stop))
        · go_wp2_with fail
          refine step_and (by repeat (first | with_reducible assumption | with_reducible exact SameAt.refl _ | with_reducible refine SameAt.drew ?_ | with_reducible refine SameAt.alloc ?_ _ | (refine SameAt.below ?_ (by with_reducible assumption)))) (fun _ => ?_)
          repeat
            first | refine lexO_pass rfl ?_ | (refine lexO_take2 ?_ rfl (by kernel_rfl) (by with_reducible assumption) (fun w' hS K Q' hK => ?_) ?_; rotate_left; focus (have hS2 := hS.2; clear hS; go_wp2_with fail; exact hK))
          refine lexO_do rfl (fun K hK => ?_) (lexO_do rfl (fun K hK => ?_) (lexO_do rfl (fun K hK => ?_) lexO_stop))
          · go_wp2_with fail
            refine step_and (by repeat (first | with_reducible assumption | with_reducible exact SameAt.refl _ | with_reducible refine SameAt.drew ?_ | with_reducible refine SameAt.alloc ?_ _ | (refine SameAt.below ?_ (by with_reducible assumption)))) (fun _ => ?_)
            repeat
              first | refine lexO_pass rfl ?_ | (refine lexO_take2 ?_ rfl (by kernel_rfl) (by with_reducible assumption) (fun w' hS K Q' hK => ?_) ?_; rotate_left; focus (have hS2 := hS.2; clear hS; go_wp2_with fail; exact hK))
            refine lexO_do rfl (fun K hK => ?_) (lexO_do rfl (fun K hK => ?_) lexO_stop)
            · go_wp2_with fail
              refine (clone_own (HMA.out.keeps (by repeat (first | with_reducible assumption | with_reducible exact Keeps.refl _ _ | with_reducible refine Keeps.drew ?_ | with_reducible refine Keeps.alloc ?_ _ | with_reducible refine Keeps.setCell ?_ ?_ _ | omega | focus (simp; done) | focus (simp; omega)))) (by omega)).mono ?_
              rintro e5 w3 ⟨q3', cq3', rfl, hown3, hb3⟩
              have hw3 : Below wr.heap.size wr w3 := below_next (by have h0 := Below.refl wr.heap.size wr; exact (by repeat (first | with_reducible assumption | with_reducible refine Below.drew ?_ | with_reducible refine Below.alloc ?_ ?_ _ | with_reducible refine Below.setCell ?_ ?_ _ | with_reducible exact Nat.le_refl _ | omega | focus (simp; done) | focus (simp; omega)))) hb3 (by simp <;> omega)
              have HB5 := Lib.hid hw3
              have l3 : wr.heap.size + 2 ≤ w3.heap.size := by have := hb3.size; simp at this; omega
              have ll3 : w1.heap.size < w3.heap.size := by omega
              have HCP := Lib.hid ((hb3.block wr.heap.size (by first | omega | (simp; done) | (simp; omega))).trans (show _ = some (.cells #[.int .u8 t, .int .u8 a, .int .u16 nn, .slice p3 ma.length q3, .slice p4 ips.length q4, .slice p5 ab.length q5] 110 (0, 0)) from (by (try simp only [heap_drew]); repeat (first | (with_reducible refine heap_last ?_; focus (simp; done)) | with_reducible refine heap_past ?_ | (with_reducible refine heap_set ?_ ?_; focus (first | omega | (simp; done) | (simp; omega))) | with_reducible assumption))))
              have HLO := Lib.hid (show ∀ k, (Value.slice q3' ma.length cq3').ownBlock = some k → wr.heap.size + 2 ≤ k ∧ k < w3.heap.size from fun k hk => by have := hown3.lt k hk; simp at this; omega)
              have HOWN := Lib.hid (ownsRow_mono (base' := wr.heap.size + 1) hown3 (by first | omega | (simp; done) | (simp; omega)))
              have HNB := Lib.hid ((hb3.block (wr.heap.size + 1) (by first | omega | (simp; done) | (simp; omega))).trans (show _ = some (Obj.cells #[.int .u64 t, .int .u64 a, .int .u64 nn, .int .u64 (ips.length : Int)] 39 (0, 0)) from (by (try simp only [heap_drew]); repeat (first | (with_reducible refine heap_last ?_; focus (simp; done)) | with_reducible refine heap_past ?_ | (with_reducible refine heap_set ?_ ?_; focus (first | omega | (simp; done) | (simp; omega))) | with_reducible assumption))))
              go_wp2_with fail
              refine step_and (SameAt.below (by repeat (first | with_reducible assumption | with_reducible exact SameAt.refl _ | with_reducible refine SameAt.drew ?_ | with_reducible refine SameAt.alloc ?_ _ | (refine SameAt.below ?_ (by with_reducible assumption)))) hb3) (fun _ => ?_)
              clear hb3 hw3 hown3
              repeat
                first | refine lexO_pass rfl ?_ | (refine lexO_take2 ?_ rfl (by kernel_rfl) (by with_reducible assumption) (fun w' hS K Q' hK => ?_) ?_; rotate_left; focus (have hS2 := hS.2; clear hS; go_wp2_with fail; exact hK))
              refine lexO_do rfl (fun K hK => ?_) lexO_stop
              go_wp2_with fail
              refine step_and (by repeat (first | with_reducible assumption | with_reducible exact SameAt.refl _ | with_reducible refine SameAt.drew ?_ | with_reducible refine SameAt.alloc ?_ _ | (refine SameAt.below ?_ (by with_reducible assumption)))) (fun _ => ?_)
              repeat
                first | refine lexO_pass rfl ?_ | (refine lexO_take2 ?_ rfl (by kernel_rfl) (by with_reducible assumption) (fun w' hS K Q' hK => ?_) ?_; rotate_left; focus (have hS2 := hS.2; clear hS; go_wp2_with fail; exact hK))
              refine lexO_do rfl (fun K hK => ?_) lexO_stop
              go_wp2_with fail
              first | refine step_last (by decide) (lexO_done ?_) | refine lexO_done ?_
              go_wp2_with fail
              go_meet
              refine ⟨w3.heap.size, wr.heap.size + 1, .slice q3' ma.length cq3', rfl, ⟨by first | omega | (simp; omega), by first | omega | (simp; omega), by first | omega | (simp; omega), by have h0 := HB5.out; exact (by repeat (first | with_reducible assumption | with_reducible refine Below.drew ?_ | with_reducible refine Below.alloc ?_ ?_ _ | with_reducible refine Below.setCell ?_ ?_ _ | with_reducible exact Nat.le_refl _ | omega | focus (simp; done) | focus (simp; omega))), by have h0 := HCP.out; exact (by (try simp only [heap_drew]); repeat (first | (with_reducible refine heap_last ?_; focus (simp; done)) | with_reducible refine heap_past ?_ | (with_reducible refine heap_set ?_ ?_; focus (first | omega | (simp; done) | (simp; omega))) | with_reducible assumption)), by have h0 := HNB.out; show _ = some ((Obj.cells #[.int .u64 t, .int .u64 a, .int .u64 nn, .int .u64 (ips.length : Int)] 39 (0, 0))); exact (by (try simp only [heap_drew]); repeat (first | (with_reducible refine heap_last ?_; focus (simp; done)) | with_reducible refine heap_past ?_ | (with_reducible refine heap_set ?_ ?_; focus (first | omega | (simp; done) | (simp; omega))) | with_reducible assumption)), by go_simp, by go_simp, fun j => by  go_simp, ownsRow_keeps (ok := fun b => wr.heap.size + 2 ≤ b ∧ b < w3.heap.size) HOWN.out (by repeat (first | with_reducible assumption | with_reducible exact Keeps.refl _ _ | with_reducible refine Keeps.drew ?_ | with_reducible refine Keeps.alloc ?_ _ | with_reducible refine Keeps.setCell ?_ ?_ _ | omega | focus (simp; done) | focus (simp; omega))) HLO.out, fun k hk => by have := HLO.out k hk; constructor <;> omega⟩⟩
            · go_wp2_with fail
              refine step_and (by repeat (first | with_reducible assumption | with_reducible exact SameAt.refl _ | with_reducible refine SameAt.drew ?_ | with_reducible refine SameAt.alloc ?_ _ | (refine SameAt.below ?_ (by with_reducible assumption)))) (fun _ => ?_)
              repeat
                first | refine lexO_pass rfl ?_ | (refine lexO_take2 ?_ rfl (by kernel_rfl) (by with_reducible assumption) (fun w' hS K Q' hK => ?_) ?_; rotate_left; focus (have hS2 := hS.2; clear hS; go_wp2_with fail; exact hK))
              refine lexO_do rfl (fun K hK => ?_) lexO_stop
              go_wp2_with fail
              refine (clone_own (HMA.out.keeps (by repeat (first | with_reducible assumption | with_reducible exact Keeps.refl _ _ | with_reducible refine Keeps.drew ?_ | with_reducible refine Keeps.alloc ?_ _ | with_reducible refine Keeps.setCell ?_ ?_ _ | omega | focus (simp; done) | focus (simp; omega)))) (by omega)).mono ?_
              rintro e5 w3 ⟨q3', cq3', rfl, hown3, hb3⟩
              have hw3 : Below wr.heap.size wr w3 := below_next (by have h0 := Below.refl wr.heap.size wr; exact (by repeat (first | with_reducible assumption | with_reducible refine Below.drew ?_ | with_reducible refine Below.alloc ?_ ?_ _ | with_reducible refine Below.setCell ?_ ?_ _ | with_reducible exact Nat.le_refl _ | omega | focus (simp; done) | focus (simp; omega)))) hb3 (by simp <;> omega)
              have HB5 := Lib.hid hw3
              have l3 : wr.heap.size + 3 ≤ w3.heap.size := by have := hb3.size; simp at this; omega
              have ll3 : w1.heap.size < w3.heap.size := by omega
              have HCP := Lib.hid ((hb3.block wr.heap.size (by first | omega | (simp; done) | (simp; omega))).trans (show _ = some (.cells #[.int .u8 t, .int .u8 a, .int .u16 nn, .slice p3 ma.length q3, .slice p4 ips.length q4, .slice p5 ab.length q5] 110 (0, 0)) from (by (try simp only [heap_drew]); repeat (first | (with_reducible refine heap_last ?_; focus (simp; done)) | with_reducible refine heap_past ?_ | (with_reducible refine heap_set ?_ ?_; focus (first | omega | (simp; done) | (simp; omega))) | with_reducible assumption))))
              have HLO := Lib.hid (show ∀ k, (Value.slice q3' ma.length cq3').ownBlock = some k → wr.heap.size + 3 ≤ k ∧ k < w3.heap.size from fun k hk => by have := hown3.lt k hk; simp at this; omega)
              have HOWN := Lib.hid (ownsRow_mono (base' := wr.heap.size + 1) hown3 (by first | omega | (simp; done) | (simp; omega)))
              have HNB := Lib.hid ((hb3.block (wr.heap.size + 1) (by first | omega | (simp; done) | (simp; omega))).trans (show _ = some (Obj.cells #[.int .u64 t, .int .u64 a, .int .u64 nn, .int .u64 (ips.length : Int)] 39 (0, 0)) from (by (try simp only [heap_drew]); repeat (first | (with_reducible refine heap_last ?_; focus (simp; done)) | with_reducible refine heap_past ?_ | (with_reducible refine heap_set ?_ ?_; focus (first | omega | (simp; done) | (simp; omega))) | with_reducible assumption))))
              have pz0 : w3.cell? ⟨wr.heap.size + 2, 0, none⟩ = some (.slice none 0 0) := (hb3.cell (p := ⟨wr.heap.size + 2, 0, none⟩) (by first | omega | (simp; done) | (simp; omega))).trans (by go_simp)
              have pf0 : w3.frozen? ⟨wr.heap.size + 2, 0, none⟩ = false := (hb3.frozen (p := ⟨wr.heap.size + 2, 0, none⟩) (by first | omega | (simp; done) | (simp; omega))).trans (by go_simp)
              have pz1 : w3.cell? ⟨wr.heap.size + 2, 1, none⟩ = some (.slice none 0 0) := (hb3.cell (p := ⟨wr.heap.size + 2, 1, none⟩) (by first | omega | (simp; done) | (simp; omega))).trans (by go_simp)
              have pf1 : w3.frozen? ⟨wr.heap.size + 2, 1, none⟩ = false := (hb3.frozen (p := ⟨wr.heap.size + 2, 1, none⟩) (by first | omega | (simp; done) | (simp; omega))).trans (by go_simp)
              have pfa : ∀ j, w3.frozen? ⟨wr.heap.size + 2, j, none⟩ = false := fun j => (hb3.frozen (p := ⟨wr.heap.size + 2, j, none⟩) (by first | omega | (simp; done) | (simp; omega))).trans (by go_simp)
              have lp3 : wr.heap.size + 2 < w3.heap.size := by omega
              go_wp2_with fail
              refine step_and (SameAt.below (by repeat (first | with_reducible assumption | with_reducible exact SameAt.refl _ | with_reducible refine SameAt.drew ?_ | with_reducible refine SameAt.alloc ?_ _ | (refine SameAt.below ?_ (by with_reducible assumption)))) hb3) (fun _ => ?_)
              clear hb3 hw3 hown3
              repeat
                first | refine lexO_pass rfl ?_ | (refine lexO_take2 ?_ rfl (by kernel_rfl) (by with_reducible assumption) (fun w' hS K Q' hK => ?_) ?_; rotate_left; focus (have hS2 := hS.2; clear hS; go_wp2_with fail; exact hK))
              refine lexO_do rfl (fun K hK => ?_) lexO_stop
              go_wp2_with fail
              first | refine step_last (by decide) (lexO_done ?_) | refine lexO_done ?_
              go_wp2_with fail
              go_meet
              refine ⟨wr.heap.size + 2, wr.heap.size + 1, .slice q3' ma.length cq3', rfl, ⟨by first | omega | (simp; omega), by first | omega | (simp; omega), by first | omega | (simp; omega), by have h0 := HB5.out; exact (by repeat (first | with_reducible assumption | with_reducible refine Below.drew ?_ | with_reducible refine Below.alloc ?_ ?_ _ | with_reducible refine Below.setCell ?_ ?_ _ | with_reducible exact Nat.le_refl _ | omega | focus (simp; done) | focus (simp; omega))), by have h0 := HCP.out; exact (by (try simp only [heap_drew]); repeat (first | (with_reducible refine heap_last ?_; focus (simp; done)) | with_reducible refine heap_past ?_ | (with_reducible refine heap_set ?_ ?_; focus (first | omega | (simp; done) | (simp; omega))) | with_reducible assumption)), by have h0 := HNB.out; show _ = some ((Obj.cells #[.int .u64 t, .int .u64 a, .int .u64 nn, .int .u64 (ips.length : Int)] 39 (0, 0))); exact (by (try simp only [heap_drew]); repeat (first | (with_reducible refine heap_last ?_; focus (simp; done)) | with_reducible refine heap_past ?_ | (with_reducible refine heap_set ?_ ?_; focus (first | omega | (simp; done) | (simp; omega))) | with_reducible assumption)), by go_simp, by go_simp, fun j => by have hpj := pfa j; go_simp, ownsRow_keeps (ok := fun b => wr.heap.size + 3 ≤ b ∧ b < w3.heap.size) HOWN.out (by repeat (first | with_reducible assumption | with_reducible exact Keeps.refl _ _ | with_reducible refine Keeps.drew ?_ | with_reducible refine Keeps.alloc ?_ _ | with_reducible refine Keeps.setCell ?_ ?_ _ | omega | focus (simp; done) | focus (simp; omega))) HLO.out, fun k hk => by have := HLO.out k hk; constructor <;> omega⟩⟩
          · go_wp2_with fail
            refine (clone_own (HMA.out.keeps (by repeat (first | with_reducible assumption | with_reducible exact Keeps.refl _ _ | with_reducible refine Keeps.drew ?_ | with_reducible refine Keeps.alloc ?_ _ | with_reducible refine Keeps.setCell ?_ ?_ _ | omega | focus (simp; done) | focus (simp; omega)))) (by omega)).mono ?_
            rintro e5 w3 ⟨q3', cq3', rfl, hown3, hb3⟩
            have hw3 : Below wr.heap.size wr w3 := below_next (by have h0 := Below.refl wr.heap.size wr; exact (by repeat (first | with_reducible assumption | with_reducible refine Below.drew ?_ | with_reducible refine Below.alloc ?_ ?_ _ | with_reducible refine Below.setCell ?_ ?_ _ | with_reducible exact Nat.le_refl _ | omega | focus (simp; done) | focus (simp; omega)))) hb3 (by simp <;> omega)
            have HB5 := Lib.hid hw3
            have l3 : wr.heap.size + 1 ≤ w3.heap.size := by have := hb3.size; simp at this; omega
            have ll3 : w1.heap.size < w3.heap.size := by omega
            have HCP := Lib.hid ((hb3.block wr.heap.size (by first | omega | (simp; done) | (simp; omega))).trans (show _ = some (.cells #[.int .u8 t, .int .u8 a, .int .u16 nn, .slice p3 ma.length q3, .slice p4 ips.length q4, .slice p5 ab.length q5] 110 (0, 0)) from (by (try simp only [heap_drew]); repeat (first | (with_reducible refine heap_last ?_; focus (simp; done)) | with_reducible refine heap_past ?_ | (with_reducible refine heap_set ?_ ?_; focus (first | omega | (simp; done) | (simp; omega))) | with_reducible assumption))))
            have HLO := Lib.hid (show ∀ k, (Value.slice q3' ma.length cq3').ownBlock = some k → wr.heap.size + 1 ≤ k ∧ k < w3.heap.size from fun k hk => by have := hown3.lt k hk; simp at this; omega)
            have HOWN := Lib.hid (ownsRow_mono (base' := wr.heap.size + 1) hown3 (by first | omega | (simp; done) | (simp; omega)))
            go_wp2_with fail
            refine step_and (SameAt.below (by repeat (first | with_reducible assumption | with_reducible exact SameAt.refl _ | with_reducible refine SameAt.drew ?_ | with_reducible refine SameAt.alloc ?_ _ | (refine SameAt.below ?_ (by with_reducible assumption)))) hb3) (fun _ => ?_)
            clear hb3 hw3 hown3
            repeat
              first | refine lexO_pass rfl ?_ | (refine lexO_take2 ?_ rfl (by kernel_rfl) (by with_reducible assumption) (fun w' hS K Q' hK => ?_) ?_; rotate_left; focus (have hS2 := hS.2; clear hS; go_wp2_with fail; exact hK))
            refine lexO_do rfl (fun K hK => ?_) (lexO_do rfl (fun K hK => ?_) lexO_stop)
            · go_wp2_with fail
              refine step_and (by repeat (first | with_reducible assumption | with_reducible exact SameAt.refl _ | with_reducible refine SameAt.drew ?_ | with_reducible refine SameAt.alloc ?_ _ | (refine SameAt.below ?_ (by with_reducible assumption)))) (fun _ => ?_)
              repeat
                first | refine lexO_pass rfl ?_ | (refine lexO_take2 ?_ rfl (by kernel_rfl) (by with_reducible assumption) (fun w' hS K Q' hK => ?_) ?_; rotate_left; focus (have hS2 := hS.2; clear hS; go_wp2_with fail; exact hK))
              refine lexO_do rfl (fun K hK => ?_) lexO_stop
              go_wp2_with fail
              refine step_and (by repeat (first | with_reducible assumption | with_reducible exact SameAt.refl _ | with_reducible refine SameAt.drew ?_ | with_reducible refine SameAt.alloc ?_ _ | (refine SameAt.below ?_ (by with_reducible assumption)))) (fun _ => ?_)
              repeat
                first | refine lexO_pass rfl ?_ | (refine lexO_take2 ?_ rfl (by kernel_rfl) (by with_reducible assumption) (fun w' hS K Q' hK => ?_) ?_; rotate_left; focus (have hS2 := hS.2; clear hS; go_wp2_with fail; exact hK))
              refine lexO_do rfl (fun K hK => ?_) lexO_stop
              go_wp2_with fail
              first | refine step_last (by decide) (lexO_done ?_) | refine lexO_done ?_
              go_wp2_with fail
              go_meet
              refine ⟨w3.heap.size + 1, w3.heap.size, .slice q3' ma.length cq3', rfl, ⟨by first | omega | (simp; omega), by first | omega | (simp; omega), by first | omega | (simp; omega), by have h0 := HB5.out; exact (by repeat (first | with_reducible assumption | with_reducible refine Below.drew ?_ | with_reducible refine Below.alloc ?_ ?_ _ | with_reducible refine Below.setCell ?_ ?_ _ | with_reducible exact Nat.le_refl _ | omega | focus (simp; done) | focus (simp; omega))), by have h0 := HCP.out; exact (by (try simp only [heap_drew]); repeat (first | (with_reducible refine heap_last ?_; focus (simp; done)) | with_reducible refine heap_past ?_ | (with_reducible refine heap_set ?_ ?_; focus (first | omega | (simp; done) | (simp; omega))) | with_reducible assumption)), by  show _ = some ((Obj.cells #[.int .u64 t, .int .u64 a, .int .u64 nn, .int .u64 (ips.length : Int)] 39 (0, 0))); exact (by (try simp only [heap_drew]); repeat (first | (with_reducible refine heap_last ?_; focus (simp; done)) | with_reducible refine heap_past ?_ | (with_reducible refine heap_set ?_ ?_; focus (first | omega | (simp; done) | (simp; omega))) | with_reducible assumption)), by go_simp, by go_simp, fun j => by  go_simp, ownsRow_keeps (ok := fun b => wr.heap.size + 1 ≤ b ∧ b < w3.heap.size) HOWN.out (by repeat (first | with_reducible assumption | with_reducible exact Keeps.refl _ _ | with_reducible refine Keeps.drew ?_ | with_reducible refine Keeps.alloc ?_ _ | with_reducible refine Keeps.setCell ?_ ?_ _ | omega | focus (simp; done) | focus (simp; omega))) HLO.out, fun k hk => by have := HLO.out k hk; constructor <;> omega⟩⟩
            · go_wp2_with fail
              refine step_and (by repeat (first | with_reducible assumption | with_reducible exact SameAt.refl _ | with_reducible refine SameAt.drew ?_ | with_reducible refine SameAt.alloc ?_ _ | (refine SameAt.below ?_ (by with_reducible assumption)))) (fun _ => ?_)
              repeat
                first | refine lexO_pass rfl ?_ | (refine lexO_take2 ?_ rfl (by kernel_rfl) (by with_reducible assumption) (fun w' hS K Q' hK => ?_) ?_; rotate_left; focus (have hS2 := hS.2; clear hS; go_wp2_with fail; exact hK))
              refine lexO_do rfl (fun K hK => ?_) lexO_stop
              go_wp2_with fail
              refine step_and (by repeat (first | with_reducible assumption | with_reducible exact SameAt.refl _ | with_reducible refine SameAt.drew ?_ | with_reducible refine SameAt.alloc ?_ _ | (refine SameAt.below ?_ (by with_reducible assumption)))) (fun _ => ?_)
              repeat
                first | refine lexO_pass rfl ?_ | (refine lexO_take2 ?_ rfl (by kernel_rfl) (by with_reducible assumption) (fun w' hS K Q' hK => ?_) ?_; rotate_left; focus (have hS2 := hS.2; clear hS; go_wp2_with fail; exact hK))
              refine lexO_do rfl (fun K hK => ?_) lexO_stop
              go_wp2_with fail
              first | refine step_last (by decide) (lexO_done ?_) | refine lexO_done ?_
              go_wp2_with fail
              go_meet
              refine ⟨w3.heap.size, w3.heap.size + 1, .slice q3' ma.length cq3', rfl, ⟨by first | omega | (simp; omega), by first | omega | (simp; omega), by first | omega | (simp; omega), by have h0 := HB5.out; exact (by repeat (first | with_reducible assumption | with_reducible refine Below.drew ?_ | with_reducible refine Below.alloc ?_ ?_ _ | with_reducible refine Below.setCell ?_ ?_ _ | with_reducible exact Nat.le_refl _ | omega | focus (simp; done) | focus (simp; omega))), by have h0 := HCP.out; exact (by (try simp only [heap_drew]); repeat (first | (with_reducible refine heap_last ?_; focus (simp; done)) | with_reducible refine heap_past ?_ | (with_reducible refine heap_set ?_ ?_; focus (first | omega | (simp; done) | (simp; omega))) | with_reducible assumption)), by  show _ = some ((Obj.cells #[.int .u64 t, .int .u64 a, .int .u64 nn, .int .u64 (ips.length : Int)] 39 (0, 0))); exact (by (try simp only [heap_drew]); repeat (first | (with_reducible refine heap_last ?_; focus (simp; done)) | with_reducible refine heap_past ?_ | (with_reducible refine heap_set ?_ ?_; focus (first | omega | (simp; done) | (simp; omega))) | with_reducible assumption)), by go_simp, by go_simp, fun j => by  go_simp, ownsRow_keeps (ok := fun b => wr.heap.size + 1 ≤ b ∧ b < w3.heap.size) HOWN.out (by repeat (first | with_reducible assumption | with_reducible exact Keeps.refl _ _ | with_reducible refine Keeps.drew ?_ | with_reducible refine Keeps.alloc ?_ _ | with_reducible refine Keeps.setCell ?_ ?_ _ | omega | focus (simp; done) | focus (simp; omega))) HLO.out, fun k hk => by have := HLO.out k hk; constructor <;> omega⟩⟩
          · go_wp2_with fail
            refine step_and (by repeat (first | with_reducible assumption | with_reducible exact SameAt.refl _ | with_reducible refine SameAt.drew ?_ | with_reducible refine SameAt.alloc ?_ _ | (refine SameAt.below ?_ (by with_reducible assumption)))) (fun _ => ?_)
            repeat
              first | refine lexO_pass rfl ?_ | (refine lexO_take2 ?_ rfl (by kernel_rfl) (by with_reducible assumption) (fun w' hS K Q' hK => ?_) ?_; rotate_left; focus (have hS2 := hS.2; clear hS; go_wp2_with fail; exact hK))
            refine lexO_do rfl (fun K hK => ?_) (lexO_do rfl (fun K hK => ?_) lexO_stop)
            · go_wp2_with fail
              refine step_and (by repeat (first | with_reducible assumption | with_reducible exact SameAt.refl _ | with_reducible refine SameAt.drew ?_ | with_reducible refine SameAt.alloc ?_ _ | (refine SameAt.below ?_ (by with_reducible assumption)))) (fun _ => ?_)
              repeat
                first | refine lexO_pass rfl ?_ | (refine lexO_take2 ?_ rfl (by kernel_rfl) (by with_reducible assumption) (fun w' hS K Q' hK => ?_) ?_; rotate_left; focus (have hS2 := hS.2; clear hS; go_wp2_with fail; exact hK))
              refine lexO_do rfl (fun K hK => ?_) lexO_stop
              go_wp2_with fail
              refine (clone_own (HMA.out.keeps (by repeat (first | with_reducible assumption | with_reducible exact Keeps.refl _ _ | with_reducible refine Keeps.drew ?_ | with_reducible refine Keeps.alloc ?_ _ | with_reducible refine Keeps.setCell ?_ ?_ _ | omega | focus (simp; done) | focus (simp; omega)))) (by omega)).mono ?_
              rintro e5 w3 ⟨q3', cq3', rfl, hown3, hb3⟩
              have hw3 : Below wr.heap.size wr w3 := below_next (by have h0 := Below.refl wr.heap.size wr; exact (by repeat (first | with_reducible assumption | with_reducible refine Below.drew ?_ | with_reducible refine Below.alloc ?_ ?_ _ | with_reducible refine Below.setCell ?_ ?_ _ | with_reducible exact Nat.le_refl _ | omega | focus (simp; done) | focus (simp; omega)))) hb3 (by simp <;> omega)
              have HB5 := Lib.hid hw3
              have l3 : wr.heap.size + 3 ≤ w3.heap.size := by have := hb3.size; simp at this; omega
              have ll3 : w1.heap.size < w3.heap.size := by omega
              have HCP := Lib.hid ((hb3.block wr.heap.size (by first | omega | (simp; done) | (simp; omega))).trans (show _ = some (.cells #[.int .u8 t, .int .u8 a, .int .u16 nn, .slice p3 ma.length q3, .slice p4 ips.length q4, .slice p5 ab.length q5] 110 (0, 0)) from (by (try simp only [heap_drew]); repeat (first | (with_reducible refine heap_last ?_; focus (simp; done)) | with_reducible refine heap_past ?_ | (with_reducible refine heap_set ?_ ?_; focus (first | omega | (simp; done) | (simp; omega))) | with_reducible assumption))))
              have HLO := Lib.hid (show ∀ k, (Value.slice q3' ma.length cq3').ownBlock = some k → wr.heap.size + 3 ≤ k ∧ k < w3.heap.size from fun k hk => by have := hown3.lt k hk; simp at this; omega)
              have HOWN := Lib.hid (ownsRow_mono (base' := wr.heap.size + 1) hown3 (by first | omega | (simp; done) | (simp; omega)))
              have HNB := Lib.hid ((hb3.block (wr.heap.size + 2) (by first | omega | (simp; done) | (simp; omega))).trans (show _ = some (Obj.cells #[.int .u64 t, .int .u64 a, .int .u64 nn, .int .u64 (ips.length : Int)] 39 (0, 0)) from (by (try simp only [heap_drew]); repeat (first | (with_reducible refine heap_last ?_; focus (simp; done)) | with_reducible refine heap_past ?_ | (with_reducible refine heap_set ?_ ?_; focus (first | omega | (simp; done) | (simp; omega))) | with_reducible assumption))))
              have pz0 : w3.cell? ⟨wr.heap.size + 1, 0, none⟩ = some (.slice none 0 0) := (hb3.cell (p := ⟨wr.heap.size + 1, 0, none⟩) (by first | omega | (simp; done) | (simp; omega))).trans (by go_simp)
              have pf0 : w3.frozen? ⟨wr.heap.size + 1, 0, none⟩ = false := (hb3.frozen (p := ⟨wr.heap.size + 1, 0, none⟩) (by first | omega | (simp; done) | (simp; omega))).trans (by go_simp)
              have pz1 : w3.cell? ⟨wr.heap.size + 1, 1, none⟩ = some (.slice none 0 0) := (hb3.cell (p := ⟨wr.heap.size + 1, 1, none⟩) (by first | omega | (simp; done) | (simp; omega))).trans (by go_simp)
              have pf1 : w3.frozen? ⟨wr.heap.size + 1, 1, none⟩ = false := (hb3.frozen (p := ⟨wr.heap.size + 1, 1, none⟩) (by first | omega | (simp; done) | (simp; omega))).trans (by go_simp)
              have pfa : ∀ j, w3.frozen? ⟨wr.heap.size + 1, j, none⟩ = false := fun j => (hb3.frozen (p := ⟨wr.heap.size + 1, j, none⟩) (by first | omega | (simp; done) | (simp; omega))).trans (by go_simp)
              have lp3 : wr.heap.size + 1 < w3.heap.size := by omega
              go_wp2_with fail
              refine step_and (SameAt.below (by repeat (first | with_reducible assumption | with_reducible exact SameAt.refl _ | with_reducible refine SameAt.drew ?_ | with_reducible refine SameAt.alloc ?_ _ | (refine SameAt.below ?_ (by with_reducible assumption)))) hb3) (fun _ => ?_)
              clear hb3 hw3 hown3
              repeat
                first | refine lexO_pass rfl ?_ | (refine lexO_take2 ?_ rfl (by kernel_rfl) (by with_reducible assumption) (fun w' hS K Q' hK => ?_) ?_; rotate_left; focus (have hS2 := hS.2; clear hS; go_wp2_with fail; exact hK))
              refine lexO_do rfl (fun K hK => ?_) lexO_stop
              go_wp2_with fail
              first | refine step_last (by decide) (lexO_done ?_) | refine lexO_done ?_
              go_wp2_with fail
              go_meet
              refine ⟨wr.heap.size + 1, wr.heap.size + 2, .slice q3' ma.length cq3', rfl, ⟨by first | omega | (simp; omega), by first | omega | (simp; omega), by first | omega | (simp; omega), by have h0 := HB5.out; exact (by repeat (first | with_reducible assumption | with_reducible refine Below.drew ?_ | with_reducible refine Below.alloc ?_ ?_ _ | with_reducible refine Below.setCell ?_ ?_ _ | with_reducible exact Nat.le_refl _ | omega | focus (simp; done) | focus (simp; omega))), by have h0 := HCP.out; exact (by (try simp only [heap_drew]); repeat (first | (with_reducible refine heap_last ?_; focus (simp; done)) | with_reducible refine heap_past ?_ | (with_reducible refine heap_set ?_ ?_; focus (first | omega | (simp; done) | (simp; omega))) | with_reducible assumption)), by have h0 := HNB.out; show _ = some ((Obj.cells #[.int .u64 t, .int .u64 a, .int .u64 nn, .int .u64 (ips.length : Int)] 39 (0, 0))); exact (by (try simp only [heap_drew]); repeat (first | (with_reducible refine heap_last ?_; focus (simp; done)) | with_reducible refine heap_past ?_ | (with_reducible refine heap_set ?_ ?_; focus (first | omega | (simp; done) | (simp; omega))) | with_reducible assumption)), by go_simp, by go_simp, fun j => by have hpj := pfa j; go_simp, ownsRow_keeps (ok := fun b => wr.heap.size + 3 ≤ b ∧ b < w3.heap.size) HOWN.out (by repeat (first | with_reducible assumption | with_reducible exact Keeps.refl _ _ | with_reducible refine Keeps.drew ?_ | with_reducible refine Keeps.alloc ?_ _ | with_reducible refine Keeps.setCell ?_ ?_ _ | omega | focus (simp; done) | focus (simp; omega))) HLO.out, fun k hk => by have := HLO.out k hk; constructor <;> omega⟩⟩
            · go_wp2_with fail
              refine (clone_own (HMA.out.keeps (by repeat (first | with_reducible assumption | with_reducible exact Keeps.refl _ _ | with_reducible refine Keeps.drew ?_ | with_reducible refine Keeps.alloc ?_ _ | with_reducible refine Keeps.setCell ?_ ?_ _ | omega | focus (simp; done) | focus (simp; omega)))) (by omega)).mono ?_
              rintro e5 w3 ⟨q3', cq3', rfl, hown3, hb3⟩
              have hw3 : Below wr.heap.size wr w3 := below_next (by have h0 := Below.refl wr.heap.size wr; exact (by repeat (first | with_reducible assumption | with_reducible refine Below.drew ?_ | with_reducible refine Below.alloc ?_ ?_ _ | with_reducible refine Below.setCell ?_ ?_ _ | with_reducible exact Nat.le_refl _ | omega | focus (simp; done) | focus (simp; omega)))) hb3 (by simp <;> omega)
              have HB5 := Lib.hid hw3
              have l3 : wr.heap.size + 2 ≤ w3.heap.size := by have := hb3.size; simp at this; omega
              have ll3 : w1.heap.size < w3.heap.size := by omega
              have HCP := Lib.hid ((hb3.block wr.heap.size (by first | omega | (simp; done) | (simp; omega))).trans (show _ = some (.cells #[.int .u8 t, .int .u8 a, .int .u16 nn, .slice p3 ma.length q3, .slice p4 ips.length q4, .slice p5 ab.length q5] 110 (0, 0)) from (by (try simp only [heap_drew]); repeat (first | (with_reducible refine heap_last ?_; focus (simp; done)) | with_reducible refine heap_past ?_ | (with_reducible refine heap_set ?_ ?_; focus (first | omega | (simp; done) | (simp; omega))) | with_reducible assumption))))
              have HLO := Lib.hid (show ∀ k, (Value.slice q3' ma.length cq3').ownBlock = some k → wr.heap.size + 2 ≤ k ∧ k < w3.heap.size from fun k hk => by have := hown3.lt k hk; simp at this; omega)
              have HOWN := Lib.hid (ownsRow_mono (base' := wr.heap.size + 1) hown3 (by first | omega | (simp; done) | (simp; omega)))
              have pz0 : w3.cell? ⟨wr.heap.size + 1, 0, none⟩ = some (.slice none 0 0) := (hb3.cell (p := ⟨wr.heap.size + 1, 0, none⟩) (by first | omega | (simp; done) | (simp; omega))).trans (by go_simp)
              have pf0 : w3.frozen? ⟨wr.heap.size + 1, 0, none⟩ = false := (hb3.frozen (p := ⟨wr.heap.size + 1, 0, none⟩) (by first | omega | (simp; done) | (simp; omega))).trans (by go_simp)
              have pz1 : w3.cell? ⟨wr.heap.size + 1, 1, none⟩ = some (.slice none 0 0) := (hb3.cell (p := ⟨wr.heap.size + 1, 1, none⟩) (by first | omega | (simp; done) | (simp; omega))).trans (by go_simp)
              have pf1 : w3.frozen? ⟨wr.heap.size + 1, 1, none⟩ = false := (hb3.frozen (p := ⟨wr.heap.size + 1, 1, none⟩) (by first | omega | (simp; done) | (simp; omega))).trans (by go_simp)
              have pfa : ∀ j, w3.frozen? ⟨wr.heap.size + 1, j, none⟩ = false := fun j => (hb3.frozen (p := ⟨wr.heap.size + 1, j, none⟩) (by first | omega | (simp; done) | (simp; omega))).trans (by go_simp)
              have lp3 : wr.heap.size + 1 < w3.heap.size := by omega
              go_wp2_with fail
              refine step_and (SameAt.below (by repeat (first | with_reducible assumption | with_reducible exact SameAt.refl _ | with_reducible refine SameAt.drew ?_ | with_reducible refine SameAt.alloc ?_ _ | (refine SameAt.below ?_ (by with_reducible assumption)))) hb3) (fun _ => ?_)
              clear hb3 hw3 hown3
              repeat
                first | refine lexO_pass rfl ?_ | (refine lexO_take2 ?_ rfl (by kernel_rfl) (by with_reducible assumption) (fun w' hS K Q' hK => ?_) ?_; rotate_left; focus (have hS2 := hS.2; clear hS; go_wp2_with fail; exact hK))
              refine lexO_do rfl (fun K hK => ?_) lexO_stop
              go_wp2_with fail
              refine step_and (by repeat (first | with_reducible assumption | with_reducible exact SameAt.refl _ | with_reducible refine SameAt.drew ?_ | with_reducible refine SameAt.alloc ?_ _ | (refine SameAt.below ?_ (by with_reducible assumption)))) (fun _ => ?_)
              repeat
                first | refine lexO_pass rfl ?_ | (refine lexO_take2 ?_ rfl (by kernel_rfl) (by with_reducible assumption) (fun w' hS K Q' hK => ?_) ?_; rotate_left; focus (have hS2 := hS.2; clear hS; go_wp2_with fail; exact hK))
              refine lexO_do rfl (fun K hK => ?_) lexO_stop
              go_wp2_with fail
              first | refine step_last (by decide) (lexO_done ?_) | refine lexO_done ?_
              go_wp2_with fail
              go_meet
              refine ⟨wr.heap.size + 1, w3.heap.size, .slice q3' ma.length cq3', rfl, ⟨by first | omega | (simp; omega), by first | omega | (simp; omega), by first | omega | (simp; omega), by have h0 := HB5.out; exact (by repeat (first | with_reducible assumption | with_reducible refine Below.drew ?_ | with_reducible refine Below.alloc ?_ ?_ _ | with_reducible refine Below.setCell ?_ ?_ _ | with_reducible exact Nat.le_refl _ | omega | focus (simp; done) | focus (simp; omega))), by have h0 := HCP.out; exact (by (try simp only [heap_drew]); repeat (first | (with_reducible refine heap_last ?_; focus (simp; done)) | with_reducible refine heap_past ?_ | (with_reducible refine heap_set ?_ ?_; focus (first | omega | (simp; done) | (simp; omega))) | with_reducible assumption)), by  show _ = some ((Obj.cells #[.int .u64 t, .int .u64 a, .int .u64 nn, .int .u64 (ips.length : Int)] 39 (0, 0))); exact (by (try simp only [heap_drew]); repeat (first | (with_reducible refine heap_last ?_; focus (simp; done)) | with_reducible refine heap_past ?_ | (with_reducible refine heap_set ?_ ?_; focus (first | omega | (simp; done) | (simp; omega))) | with_reducible assumption)), by go_simp, by go_simp, fun j => by have hpj := pfa j; go_simp, ownsRow_keeps (ok := fun b => wr.heap.size + 2 ≤ b ∧ b < w3.heap.size) HOWN.out (by repeat (first | with_reducible assumption | with_reducible exact Keeps.refl _ _ | with_reducible refine Keeps.drew ?_ | with_reducible refine Keeps.alloc ?_ _ | with_reducible refine Keeps.setCell ?_ ?_ _ | omega | focus (simp; done) | focus (simp; omega))) HLO.out, fun k hk => by have := HLO.out k hk; constructor <;> omega⟩⟩
        · go_wp2_with fail
          refine (clone_own (HMA.out.keeps (by repeat (first | with_reducible assumption | with_reducible exact Keeps.refl _ _ | with_reducible refine Keeps.drew ?_ | with_reducible refine Keeps.alloc ?_ _ | with_reducible refine Keeps.setCell ?_ ?_ _ | omega | focus (simp; done) | focus (simp; omega)))) (by omega)).mono ?_
          rintro e5 w3 ⟨q3', cq3', rfl, hown3, hb3⟩
          have hw3 : Below wr.heap.size wr w3 := below_next (by have h0 := Below.refl wr.heap.size wr; exact (by repeat (first | with_reducible assumption | with_reducible refine Below.drew ?_ | with_reducible refine Below.alloc ?_ ?_ _ | with_reducible refine Below.setCell ?_ ?_ _ | with_reducible exact Nat.le_refl _ | omega | focus (simp; done) | focus (simp; omega)))) hb3 (by simp <;> omega)
          have HB5 := Lib.hid hw3
          have l3 : wr.heap.size + 1 ≤ w3.heap.size := by have := hb3.size; simp at this; omega
          have ll3 : w1.heap.size < w3.heap.size := by omega
          have HCP := Lib.hid ((hb3.block wr.heap.size (by first | omega | (simp; done) | (simp; omega))).trans (show _ = some (.cells #[.int .u8 t, .int .u8 a, .int .u16 nn, .slice p3 ma.length q3, .slice p4 ips.length q4, .slice p5 ab.length q5] 110 (0, 0)) from (by (try simp only [heap_drew]); repeat (first | (with_reducible refine heap_last ?_; focus (simp; done)) | with_reducible refine heap_past ?_ | (with_reducible refine heap_set ?_ ?_; focus (first | omega | (simp; done) | (simp; omega))) | with_reducible assumption))))
          have HLO := Lib.hid (show ∀ k, (Value.slice q3' ma.length cq3').ownBlock = some k → wr.heap.size + 1 ≤ k ∧ k < w3.heap.size from fun k hk => by have := hown3.lt k hk; simp at this; omega)
          have HOWN := Lib.hid (ownsRow_mono (base' := wr.heap.size + 1) hown3 (by first | omega | (simp; done) | (simp; omega)))
          go_wp2_with fail
          refine step_and (SameAt.below (by repeat (first | with_reducible assumption | with_reducible exact SameAt.refl _ | with_reducible refine SameAt.drew ?_ | with_reducible refine SameAt.alloc ?_ _ | (refine SameAt.below ?_ (by with_reducible assumption)))) hb3) (fun _ => ?_)
          clear hb3 hw3 hown3
          repeat
            first | refine lexO_pass rfl ?_ | (refine lexO_take2 ?_ rfl (by kernel_rfl) (by with_reducible assumption) (fun w' hS K Q' hK => ?_) ?_; rotate_left; focus (have hS2 := hS.2; clear hS; go_wp2_with fail; exact hK))
          refine lexO_do rfl (fun K hK => ?_) (lexO_do rfl (fun K hK => ?_) lexO_stop)
          · go_wp2_with fail
            refine step_and (by repeat (first | with_reducible assumption | with_reducible exact SameAt.refl _ | with_reducible refine SameAt.drew ?_ | with_reducible refine SameAt.alloc ?_ _ | (refine SameAt.below ?_ (by with_reducible assumption)))) (fun _ => ?_)
            repeat
              first | refine lexO_pass rfl ?_ | (refine lexO_take2 ?_ rfl (by kernel_rfl) (by with_reducible assumption) (fun w' hS K Q' hK => ?_) ?_; rotate_left; focus (have hS2 := hS.2; clear hS; go_wp2_with fail; exact hK))
            refine lexO_do rfl (fun K hK => ?_) (lexO_do rfl (fun K hK => ?_) lexO_stop)
            · go_wp2_with fail
              refine step_and (by repeat (first | with_reducible assumption | with_reducible exact SameAt.refl _ | with_reducible refine SameAt.drew ?_ | with_reducible refine SameAt.alloc ?_ _ | (refine SameAt.below ?_ (by with_reducible assumption)))) (fun _ => ?_)
              repeat
                first | refine lexO_pass rfl ?_ | (refine lexO_take2 ?_ rfl (by kernel_rfl) (by with_reducible assumption) (fun w' hS K Q' hK => ?_) ?_; rotate_left; focus (have hS2 := hS.2; clear hS; go_wp2_with fail; exact hK))
              refine lexO_do rfl (fun K hK => ?_) lexO_stop
              go_wp2_with fail
              refine step_and (by repeat (first | with_reducible assumption | with_reducible exact SameAt.refl _ | with_reducible refine SameAt.drew ?_ | with_reducible refine SameAt.alloc ?_ _ | (refine SameAt.below ?_ (by with_reducible assumption)))) (fun _ => ?_)
              repeat
                first | refine lexO_pass rfl ?_ | (refine lexO_take2 ?_ rfl (by kernel_rfl) (by with_reducible assumption) (fun w' hS K Q' hK => ?_) ?_; rotate_left; focus (have hS2 := hS.2; clear hS; go_wp2_with fail; exact hK))
              refine lexO_do rfl (fun K hK => ?_) lexO_stop
              go_wp2_with fail
              first | refine step_last (by decide) (lexO_done ?_) | refine lexO_done ?_
              go_wp2_with fail
              go_meet
              refine ⟨w3.heap.size + 1, w3.heap.size, .slice q3' ma.length cq3', rfl, ⟨by first | omega | (simp; omega), by first | omega | (simp; omega), by first | omega | (simp; omega), by have h0 := HB5.out; exact (by repeat (first | with_reducible assumption | with_reducible refine Below.drew ?_ | with_reducible refine Below.alloc ?_ ?_ _ | with_reducible refine Below.setCell ?_ ?_ _ | with_reducible exact Nat.le_refl _ | omega | focus (simp; done) | focus (simp; omega))), by have h0 := HCP.out; exact (by (try simp only [heap_drew]); repeat (first | (with_reducible refine heap_last ?_; focus (simp; done)) | with_reducible refine heap_past ?_ | (with_reducible refine heap_set ?_ ?_; focus (first | omega | (simp; done) | (simp; omega))) | with_reducible assumption)), by  show _ = some ((Obj.cells #[.int .u64 t, .int .u64 a, .int .u64 nn, .int .u64 (ips.length : Int)] 39 (0, 0))); exact (by (try simp only [heap_drew]); repeat (first | (with_reducible refine heap_last ?_; focus (simp; done)) | with_reducible refine heap_past ?_ | (with_reducible refine heap_set ?_ ?_; focus (first | omega | (simp; done) | (simp; omega))) | with_reducible assumption)), by go_simp, by go_simp, fun j => by  go_simp, ownsRow_keeps (ok := fun b => wr.heap.size + 1 ≤ b ∧ b < w3.heap.size) HOWN.out (by repeat (first | with_reducible assumption | with_reducible exact Keeps.refl _ _ | with_reducible refine Keeps.drew ?_ | with_reducible refine Keeps.alloc ?_ _ | with_reducible refine Keeps.setCell ?_ ?_ _ | omega | focus (simp; done) | focus (simp; omega))) HLO.out, fun k hk => by have := HLO.out k hk; constructor <;> omega⟩⟩
            · go_wp2_with fail
              refine step_and (by repeat (first | with_reducible assumption | with_reducible exact SameAt.refl _ | with_reducible refine SameAt.drew ?_ | with_reducible refine SameAt.alloc ?_ _ | (refine SameAt.below ?_ (by with_reducible assumption)))) (fun _ => ?_)
              repeat
                first | refine lexO_pass rfl ?_ | (refine lexO_take2 ?_ rfl (by kernel_rfl) (by with_reducible assumption) (fun w' hS K Q' hK => ?_) ?_; rotate_left; focus (have hS2 := hS.2; clear hS; go_wp2_with fail; exact hK))
              refine lexO_do rfl (fun K hK => ?_) lexO_stop
              go_wp2_with fail
              refine step_and (by repeat (first | with_reducible assumption | with_reducible exact SameAt.refl _ | with_reducible refine SameAt.drew ?_ | with_reducible refine SameAt.alloc ?_ _ | (refine SameAt.below ?_ (by with_reducible assumption)))) (fun _ => ?_)
              repeat
                first | refine lexO_pass rfl ?_ | (refine lexO_take2 ?_ rfl (by kernel_rfl) (by with_reducible assumption) (fun w' hS K Q' hK => ?_) ?_; rotate_left; focus (have hS2 := hS.2; clear hS; go_wp2_with fail; exact hK))
              refine lexO_do rfl (fun K hK => ?_) lexO_stop
              go_wp2_with fail
              first | refine step_last (by decide) (lexO_done ?_) | refine lexO_done ?_
              go_wp2_with fail
              go_meet
              refine ⟨w3.heap.size, w3.heap.size + 1, .slice q3' ma.length cq3', rfl, ⟨by first | omega | (simp; omega), by first | omega | (simp; omega), by first | omega | (simp; omega), by have h0 := HB5.out; exact (by repeat (first | with_reducible assumption | with_reducible refine Below.drew ?_ | with_reducible refine Below.alloc ?_ ?_ _ | with_reducible refine Below.setCell ?_ ?_ _ | with_reducible exact Nat.le_refl _ | omega | focus (simp; done) | focus (simp; omega))), by have h0 := HCP.out; exact (by (try simp only [heap_drew]); repeat (first | (with_reducible refine heap_last ?_; focus (simp; done)) | with_reducible refine heap_past ?_ | (with_reducible refine heap_set ?_ ?_; focus (first | omega | (simp; done) | (simp; omega))) | with_reducible assumption)), by  show _ = some ((Obj.cells #[.int .u64 t, .int .u64 a, .int .u64 nn, .int .u64 (ips.length : Int)] 39 (0, 0))); exact (by (try simp only [heap_drew]); repeat (first | (with_reducible refine heap_last ?_; focus (simp; done)) | with_reducible refine heap_past ?_ | (with_reducible refine heap_set ?_ ?_; focus (first | omega | (simp; done) | (simp; omega))) | with_reducible assumption)), by go_simp, by go_simp, fun j => by  go_simp, ownsRow_keeps (ok := fun b => wr.heap.size + 1 ≤ b ∧ b < w3.heap.size) HOWN.out (by repeat (first | with_reducible assumption | with_reducible exact Keeps.refl _ _ | with_reducible refine Keeps.drew ?_ | with_reducible refine Keeps.alloc ?_ _ | with_reducible refine Keeps.setCell ?_ ?_ _ | omega | focus (simp; done) | focus (simp; omega))) HLO.out, fun k hk => by have := HLO.out k hk; constructor <;> omega⟩⟩
          · go_wp2_with fail
            refine step_and (by repeat (first | with_reducible assumption | with_reducible exact SameAt.refl _ | with_reducible refine SameAt.drew ?_ | with_reducible refine SameAt.alloc ?_ _ | (refine SameAt.below ?_ (by with_reducible assumption)))) (fun _ => ?_)
            repeat
              first | refine lexO_pass rfl ?_ | (refine lexO_take2 ?_ rfl (by kernel_rfl) (by with_reducible assumption) (fun w' hS K Q' hK => ?_) ?_; rotate_left; focus (have hS2 := hS.2; clear hS; go_wp2_with fail; exact hK))
            refine lexO_do rfl (fun K hK => ?_) lexO_stop
            go_wp2_with fail
            refine step_and (by repeat (first | with_reducible assumption | with_reducible exact SameAt.refl _ | with_reducible refine SameAt.drew ?_ | with_reducible refine SameAt.alloc ?_ _ | (refine SameAt.below ?_ (by with_reducible assumption)))) (fun _ => ?_)
            repeat
              first | refine lexO_pass rfl ?_ | (refine lexO_take2 ?_ rfl (by kernel_rfl) (by with_reducible assumption) (fun w' hS K Q' hK => ?_) ?_; rotate_left; focus (have hS2 := hS.2; clear hS; go_wp2_with fail; exact hK))
            refine lexO_do rfl (fun K hK => ?_) lexO_stop
            go_wp2_with fail
            refine step_and (by repeat (first | with_reducible assumption | with_reducible exact SameAt.refl _ | with_reducible refine SameAt.drew ?_ | with_reducible refine SameAt.alloc ?_ _ | (refine SameAt.below ?_ (by with_reducible assumption)))) (fun _ => ?_)
            repeat
              first | refine lexO_pass rfl ?_ | (refine lexO_take2 ?_ rfl (by kernel_rfl) (by with_reducible assumption) (fun w' hS K Q' hK => ?_) ?_; rotate_left; focus (have hS2 := hS.2; clear hS; go_wp2_with fail; exact hK))
            refine lexO_do rfl (fun K hK => ?_) lexO_stop
            go_wp2_with fail
            first | refine step_last (by decide) (lexO_done ?_) | refine lexO_done ?_
            go_wp2_with fail
            go_meet
            refine ⟨w3.heap.size, w3.heap.size + 1, .slice q3' ma.length cq3', rfl, ⟨by first | omega | (simp; omega), by first | omega | (simp; omega), by first | omega | (simp; omega), by have h0 := HB5.out; exact (by repeat (first | with_reducible assumption | with_reducible refine Below.drew ?_ | with_reducible refine Below.alloc ?_ ?_ _ | with_reducible refine Below.setCell ?_ ?_ _ | with_reducible exact Nat.le_refl _ | omega | focus (simp; done) | focus (simp; omega))), by have h0 := HCP.out; exact (by (try simp only [heap_drew]); repeat (first | (with_reducible refine heap_last ?_; focus (simp; done)) | with_reducible refine heap_past ?_ | (with_reducible refine heap_set ?_ ?_; focus (first | omega | (simp; done) | (simp; omega))) | with_reducible assumption)), by  show _ = some ((Obj.cells #[.int .u64 t, .int .u64 a, .int .u64 nn, .int .u64 (ips.length : Int)] 39 (0, 0))); exact (by (try simp only [heap_drew]); repeat (first | (with_reducible refine heap_last ?_; focus (simp; done)) | with_reducible refine heap_past ?_ | (with_reducible refine heap_set ?_ ?_; focus (first | omega | (simp; done) | (simp; omega))) | with_reducible assumption)), by go_simp, by go_simp, fun j => by  go_simp, ownsRow_keeps (ok := fun b => wr.heap.size + 1 ≤ b ∧ b < w3.heap.size) HOWN.out (by repeat (first | with_reducible assumption | with_reducible exact Keeps.refl _ _ | with_reducible refine Keeps.drew ?_ | with_reducible refine Keeps.alloc ?_ _ | with_reducible refine Keeps.setCell ?_ ?_ _ | omega | focus (simp; done) | focus (simp; omega))) HLO.out, fun k hk => by have := HLO.out k hk; constructor <;> omega⟩⟩
        · go_wp2_with fail
          refine step_and (by repeat (first | with_reducible assumption | with_reducible exact SameAt.refl _ | with_reducible refine SameAt.drew ?_ | with_reducible refine SameAt.alloc ?_ _ | (refine SameAt.below ?_ (by with_reducible assumption)))) (fun _ => ?_)
          repeat
            first | refine lexO_pass rfl ?_ | (refine lexO_take2 ?_ rfl (by kernel_rfl) (by with_reducible assumption) (fun w' hS K Q' hK => ?_) ?_; rotate_left; focus (have hS2 := hS.2; clear hS; go_wp2_with fail; exact hK))
          refine lexO_do rfl (fun K hK => ?_) (lexO_do rfl (fun K hK => ?_) lexO_stop)
          · go_wp2_with fail
            refine step_and (by repeat (first | with_reducible assumption | with_reducible exact SameAt.refl _ | with_reducible refine SameAt.drew ?_ | with_reducible refine SameAt.alloc ?_ _ | (refine SameAt.below ?_ (by with_reducible assumption)))) (fun _ => ?_)
            repeat
              first | refine lexO_pass rfl ?_ | (refine lexO_take2 ?_ rfl (by kernel_rfl) (by with_reducible assumption) (fun w' hS K Q' hK => ?_) ?_; rotate_left; focus (have hS2 := hS.2; clear hS; go_wp2_with fail; exact hK))
            refine lexO_do rfl (fun K hK => ?_) (lexO_do rfl (fun K hK => ?_) lexO_stop)
            · go_wp2_with fail
              refine step_and (by repeat (first | with_reducible assumption | with_reducible exact SameAt.refl _ | with_reducible refine SameAt.drew ?_ | with_reducible refine SameAt.alloc ?_ _ | (refine SameAt.below ?_ (by with_reducible assumption)))) (fun _ => ?_)
              repeat
                first | refine lexO_pass rfl ?_ | (refine lexO_take2 ?_ rfl (by kernel_rfl) (by with_reducible assumption) (fun w' hS K Q' hK => ?_) ?_; rotate_left; focus (have hS2 := hS.2; clear hS; go_wp2_with fail; exact hK))
              refine lexO_do rfl (fun K hK => ?_) lexO_stop
              go_wp2_with fail
              refine (clone_own (HMA.out.keeps (by repeat (first | with_reducible assumption | with_reducible exact Keeps.refl _ _ | with_reducible refine Keeps.drew ?_ | with_reducible refine Keeps.alloc ?_ _ | with_reducible refine Keeps.setCell ?_ ?_ _ | omega | focus (simp; done) | focus (simp; omega)))) (by omega)).mono ?_
              rintro e5 w3 ⟨q3', cq3', rfl, hown3, hb3⟩
              have hw3 : Below wr.heap.size wr w3 := below_next (by have h0 := Below.refl wr.heap.size wr; exact (by repeat (first | with_reducible assumption | with_reducible refine Below.drew ?_ | with_reducible refine Below.alloc ?_ ?_ _ | with_reducible refine Below.setCell ?_ ?_ _ | with_reducible exact Nat.le_refl _ | omega | focus (simp; done) | focus (simp; omega)))) hb3 (by simp <;> omega)
              have HB5 := Lib.hid hw3
              have l3 : wr.heap.size + 3 ≤ w3.heap.size := by have := hb3.size; simp at this; omega
              have ll3 : w1.heap.size < w3.heap.size := by omega
              have HCP := Lib.hid ((hb3.block wr.heap.size (by first | omega | (simp; done) | (simp; omega))).trans (show _ = some (.cells #[.int .u8 t, .int .u8 a, .int .u16 nn, .slice p3 ma.length q3, .slice p4 ips.length q4, .slice p5 ab.length q5] 110 (0, 0)) from (by (try simp only [heap_drew]); repeat (first | (with_reducible refine heap_last ?_; focus (simp; done)) | with_reducible refine heap_past ?_ | (with_reducible refine heap_set ?_ ?_; focus (first | omega | (simp; done) | (simp; omega))) | with_reducible assumption))))
              have HLO := Lib.hid (show ∀ k, (Value.slice q3' ma.length cq3').ownBlock = some k → wr.heap.size + 3 ≤ k ∧ k < w3.heap.size from fun k hk => by have := hown3.lt k hk; simp at this; omega)
              have HOWN := Lib.hid (ownsRow_mono (base' := wr.heap.size + 1) hown3 (by first | omega | (simp; done) | (simp; omega)))
              have HNB := Lib.hid ((hb3.block (wr.heap.size + 2) (by first | omega | (simp; done) | (simp; omega))).trans (show _ = some (Obj.cells #[.int .u64 t, .int .u64 a, .int .u64 nn, .int .u64 (ips.length : Int)] 39 (0, 0)) from (by (try simp only [heap_drew]); repeat (first | (with_reducible refine heap_last ?_; focus (simp; done)) | with_reducible refine heap_past ?_ | (with_reducible refine heap_set ?_ ?_; focus (first | omega | (simp; done) | (simp; omega))) | with_reducible assumption))))
              have pz0 : w3.cell? ⟨wr.heap.size + 1, 0, none⟩ = some (.slice none 0 0) := (hb3.cell (p := ⟨wr.heap.size + 1, 0, none⟩) (by first | omega | (simp; done) | (simp; omega))).trans (by go_simp)
              have pf0 : w3.frozen? ⟨wr.heap.size + 1, 0, none⟩ = false := (hb3.frozen (p := ⟨wr.heap.size + 1, 0, none⟩) (by first | omega | (simp; done) | (simp; omega))).trans (by go_simp)
              have pz1 : w3.cell? ⟨wr.heap.size + 1, 1, none⟩ = some (.slice none 0 0) := (hb3.cell (p := ⟨wr.heap.size + 1, 1, none⟩) (by first | omega | (simp; done) | (simp; omega))).trans (by go_simp)
              have pf1 : w3.frozen? ⟨wr.heap.size + 1, 1, none⟩ = false := (hb3.frozen (p := ⟨wr.heap.size + 1, 1, none⟩) (by first | omega | (simp; done) | (simp; omega))).trans (by go_simp)
              have pfa : ∀ j, w3.frozen? ⟨wr.heap.size + 1, j, none⟩ = false := fun j => (hb3.frozen (p := ⟨wr.heap.size + 1, j, none⟩) (by first | omega | (simp; done) | (simp; omega))).trans (by go_simp)
              have lp3 : wr.heap.size + 1 < w3.heap.size := by omega
              go_wp2_with fail
              refine step_and (SameAt.below (by repeat (first | with_reducible assumption | with_reducible exact SameAt.refl _ | with_reducible refine SameAt.drew ?_ | with_reducible refine SameAt.alloc ?_ _ | (refine SameAt.below ?_ (by with_reducible assumption)))) hb3) (fun _ => ?_)
              clear hb3 hw3 hown3
              repeat
                first | refine lexO_pass rfl ?_ | (refine lexO_take2 ?_ rfl (by kernel_rfl) (by with_reducible assumption) (fun w' hS K Q' hK => ?_) ?_; rotate_left; focus (have hS2 := hS.2; clear hS; go_wp2_with fail; exact hK))
              refine lexO_do rfl (fun K hK => ?_) lexO_stop
              go_wp2_with fail
              first | refine step_last (by decide) (lexO_done ?_) | refine lexO_done ?_
              go_wp2_with fail
              go_meet
              refine ⟨wr.heap.size + 1, wr.heap.size + 2, .slice q3' ma.length cq3', rfl, ⟨by first | omega | (simp; omega), by first | omega | (simp; omega), by first | omega | (simp; omega), by have h0 := HB5.out; exact (by repeat (first | with_reducible assumption | with_reducible refine Below.drew ?_ | with_reducible refine Below.alloc ?_ ?_ _ | with_reducible refine Below.setCell ?_ ?_ _ | with_reducible exact Nat.le_refl _ | omega | focus (simp; done) | focus (simp; omega))), by have h0 := HCP.out; exact (by (try simp only [heap_drew]); repeat (first | (with_reducible refine heap_last ?_; focus (simp; done)) | with_reducible refine heap_past ?_ | (with_reducible refine heap_set ?_ ?_; focus (first | omega | (simp; done) | (simp; omega))) | with_reducible assumption)), by have h0 := HNB.out; show _ = some ((Obj.cells #[.int .u64 t, .int .u64 a, .int .u64 nn, .int .u64 (ips.length : Int)] 39 (0, 0))); exact (by (try simp only [heap_drew]); repeat (first | (with_reducible refine heap_last ?_; focus (simp; done)) | with_reducible refine heap_past ?_ | (with_reducible refine heap_set ?_ ?_; focus (first | omega | (simp; done) | (simp; omega))) | with_reducible assumption)), by go_simp, by go_simp, fun j => by have hpj := pfa j; go_simp, ownsRow_keeps (ok := fun b => wr.heap.size + 3 ≤ b ∧ b < w3.heap.size) HOWN.out (by repeat (first | with_reducible assumption | with_reducible exact Keeps.refl _ _ | with_reducible refine Keeps.drew ?_ | with_reducible refine Keeps.alloc ?_ _ | with_reducible refine Keeps.setCell ?_ ?_ _ | omega | focus (simp; done) | focus (simp; omega))) HLO.out, fun k hk => by have := HLO.out k hk; constructor <;> omega⟩⟩
            · go_wp2_with fail
              refine (clone_own (HMA.out.keeps (by repeat (first | with_reducible assumption | with_reducible exact Keeps.refl _ _ | with_reducible refine Keeps.drew ?_ | with_reducible refine Keeps.alloc ?_ _ | with_reducible refine Keeps.setCell ?_ ?_ _ | omega | focus (simp; done) | focus (simp; omega)))) (by omega)).mono ?_
              rintro e5 w3 ⟨q3', cq3', rfl, hown3, hb3⟩
              have hw3 : Below wr.heap.size wr w3 := below_next (by have h0 := Below.refl wr.heap.size wr; exact (by repeat (first | with_reducible assumption | with_reducible refine Below.drew ?_ | with_reducible refine Below.alloc ?_ ?_ _ | with_reducible refine Below.setCell ?_ ?_ _ | with_reducible exact Nat.le_refl _ | omega | focus (simp; done) | focus (simp; omega)))) hb3 (by simp <;> omega)
              have HB5 := Lib.hid hw3
              have l3 : wr.heap.size + 2 ≤ w3.heap.size := by have := hb3.size; simp at this; omega
              have ll3 : w1.heap.size < w3.heap.size := by omega
              have HCP := Lib.hid ((hb3.block wr.heap.size (by first | omega | (simp; done) | (simp; omega))).trans (show _ = some (.cells #[.int .u8 t, .int .u8 a, .int .u16 nn, .slice p3 ma.length q3, .slice p4 ips.length q4, .slice p5 ab.length q5] 110 (0, 0)) from (by (try simp only [heap_drew]); repeat (first | (with_reducible refine heap_last ?_; focus (simp; done)) | with_reducible refine heap_past ?_ | (with_reducible refine heap_set ?_ ?_; focus (first | omega | (simp; done) | (simp; omega))) | with_reducible assumption))))
              have HLO := Lib.hid (show ∀ k, (Value.slice q3' ma.length cq3').ownBlock = some k → wr.heap.size + 2 ≤ k ∧ k < w3.heap.size from fun k hk => by have := hown3.lt k hk; simp at this; omega)
              have HOWN := Lib.hid (ownsRow_mono (base' := wr.heap.size + 1) hown3 (by first | omega | (simp; done) | (simp; omega)))
              have pz0 : w3.cell? ⟨wr.heap.size + 1, 0, none⟩ = some (.slice none 0 0) := (hb3.cell (p := ⟨wr.heap.size + 1, 0, none⟩) (by first | omega | (simp; done) | (simp; omega))).trans (by go_simp)
              have pf0 : w3.frozen? ⟨wr.heap.size + 1, 0, none⟩ = false := (hb3.frozen (p := ⟨wr.heap.size + 1, 0, none⟩) (by first | omega | (simp; done) | (simp; omega))).trans (by go_simp)
              have pz1 : w3.cell? ⟨wr.heap.size + 1, 1, none⟩ = some (.slice none 0 0) := (hb3.cell (p := ⟨wr.heap.size + 1, 1, none⟩) (by first | omega | (simp; done) | (simp; omega))).trans (by go_simp)
              have pf1 : w3.frozen? ⟨wr.heap.size + 1, 1, none⟩ = false := (hb3.frozen (p := ⟨wr.heap.size + 1, 1, none⟩) (by first | omega | (simp; done) | (simp; omega))).trans (by go_simp)
              have pfa : ∀ j, w3.frozen? ⟨wr.heap.size + 1, j, none⟩ = false := fun j => (hb3.frozen (p := ⟨wr.heap.size + 1, j, none⟩) (by first | omega | (simp; done) | (simp; omega))).trans (by go_simp)
              have lp3 : wr.heap.size + 1 < w3.heap.size := by omega
              go_wp2_with fail
              refine step_and (SameAt.below (by repeat (first | with_reducible assumption | with_reducible exact SameAt.refl _ | with_reducible refine SameAt.drew ?_ | with_reducible refine SameAt.alloc ?_ _ | (refine SameAt.below ?_ (by with_reducible assumption)))) hb3) (fun _ => ?_)
              clear hb3 hw3 hown3
              repeat
                first | refine lexO_pass rfl ?_ | (refine lexO_take2 ?_ rfl (by kernel_rfl) (by with_reducible assumption) (fun w' hS K Q' hK => ?_) ?_; rotate_left; focus (have hS2 := hS.2; clear hS; go_wp2_with fail; exact hK))
              refine lexO_do rfl (fun K hK => ?_) lexO_stop
              go_wp2_with fail
              refine step_and (by repeat (first | with_reducible assumption | with_reducible exact SameAt.refl _ | with_reducible refine SameAt.drew ?_ | with_reducible refine SameAt.alloc ?_ _ | (refine SameAt.below ?_ (by with_reducible assumption)))) (fun _ => ?_)
              repeat
                first | refine lexO_pass rfl ?_ | (refine lexO_take2 ?_ rfl (by kernel_rfl) (by with_reducible assumption) (fun w' hS K Q' hK => ?_) ?_; rotate_left; focus (have hS2 := hS.2; clear hS; go_wp2_with fail; exact hK))
              refine lexO_do rfl (fun K hK => ?_) lexO_stop
              go_wp2_with fail
              first | refine step_last (by decide) (lexO_done ?_) | refine lexO_done ?_
              go_wp2_with fail
              go_meet
              refine ⟨wr.heap.size + 1, w3.heap.size, .slice q3' ma.length cq3', rfl, ⟨by first | omega | (simp; omega), by first | omega | (simp; omega), by first | omega | (simp; omega), by have h0 := HB5.out; exact (by repeat (first | with_reducible assumption | with_reducible refine Below.drew ?_ | with_reducible refine Below.alloc ?_ ?_ _ | with_reducible refine Below.setCell ?_ ?_ _ | with_reducible exact Nat.le_refl _ | omega | focus (simp; done) | focus (simp; omega))), by have h0 := HCP.out; exact (by (try simp only [heap_drew]); repeat (first | (with_reducible refine heap_last ?_; focus (simp; done)) | with_reducible refine heap_past ?_ | (with_reducible refine heap_set ?_ ?_; focus (first | omega | (simp; done) | (simp; omega))) | with_reducible assumption)), by  show _ = some ((Obj.cells #[.int .u64 t, .int .u64 a, .int .u64 nn, .int .u64 (ips.length : Int)] 39 (0, 0))); exact (by (try simp only [heap_drew]); repeat (first | (with_reducible refine heap_last ?_; focus (simp; done)) | with_reducible refine heap_past ?_ | (with_reducible refine heap_set ?_ ?_; focus (first | omega | (simp; done) | (simp; omega))) | with_reducible assumption)), by go_simp, by go_simp, fun j => by have hpj := pfa j; go_simp, ownsRow_keeps (ok := fun b => wr.heap.size + 2 ≤ b ∧ b < w3.heap.size) HOWN.out (by repeat (first | with_reducible assumption | with_reducible exact Keeps.refl _ _ | with_reducible refine Keeps.drew ?_ | with_reducible refine Keeps.alloc ?_ _ | with_reducible refine Keeps.setCell ?_ ?_ _ | omega | focus (simp; done) | focus (simp; omega))) HLO.out, fun k hk => by have := HLO.out k hk; constructor <;> omega⟩⟩
          · go_wp2_with fail
            refine (clone_own (HMA.out.keeps (by repeat (first | with_reducible assumption | with_reducible exact Keeps.refl _ _ | with_reducible refine Keeps.drew ?_ | with_reducible refine Keeps.alloc ?_ _ | with_reducible refine Keeps.setCell ?_ ?_ _ | omega | focus (simp; done) | focus (simp; omega)))) (by omega)).mono ?_
            rintro e5 w3 ⟨q3', cq3', rfl, hown3, hb3⟩
            have hw3 : Below wr.heap.size wr w3 := below_next (by have h0 := Below.refl wr.heap.size wr; exact (by repeat (first | with_reducible assumption | with_reducible refine Below.drew ?_ | with_reducible refine Below.alloc ?_ ?_ _ | with_reducible refine Below.setCell ?_ ?_ _ | with_reducible exact Nat.le_refl _ | omega | focus (simp; done) | focus (simp; omega)))) hb3 (by simp <;> omega)
            have HB5 := Lib.hid hw3
            have l3 : wr.heap.size + 2 ≤ w3.heap.size := by have := hb3.size; simp at this; omega
            have ll3 : w1.heap.size < w3.heap.size := by omega
            have HCP := Lib.hid ((hb3.block wr.heap.size (by first | omega | (simp; done) | (simp; omega))).trans (show _ = some (.cells #[.int .u8 t, .int .u8 a, .int .u16 nn, .slice p3 ma.length q3, .slice p4 ips.length q4, .slice p5 ab.length q5] 110 (0, 0)) from (by (try simp only [heap_drew]); repeat (first | (with_reducible refine heap_last ?_; focus (simp; done)) | with_reducible refine heap_past ?_ | (with_reducible refine heap_set ?_ ?_; focus (first | omega | (simp; done) | (simp; omega))) | with_reducible assumption))))
            have HLO := Lib.hid (show ∀ k, (Value.slice q3' ma.length cq3').ownBlock = some k → wr.heap.size + 2 ≤ k ∧ k < w3.heap.size from fun k hk => by have := hown3.lt k hk; simp at this; omega)
            have HOWN := Lib.hid (ownsRow_mono (base' := wr.heap.size + 1) hown3 (by first | omega | (simp; done) | (simp; omega)))
            have pz0 : w3.cell? ⟨wr.heap.size + 1, 0, none⟩ = some (.slice none 0 0) := (hb3.cell (p := ⟨wr.heap.size + 1, 0, none⟩) (by first | omega | (simp; done) | (simp; omega))).trans (by go_simp)
            have pf0 : w3.frozen? ⟨wr.heap.size + 1, 0, none⟩ = false := (hb3.frozen (p := ⟨wr.heap.size + 1, 0, none⟩) (by first | omega | (simp; done) | (simp; omega))).trans (by go_simp)
            have pz1 : w3.cell? ⟨wr.heap.size + 1, 1, none⟩ = some (.slice none 0 0) := (hb3.cell (p := ⟨wr.heap.size + 1, 1, none⟩) (by first | omega | (simp; done) | (simp; omega))).trans (by go_simp)
            have pf1 : w3.frozen? ⟨wr.heap.size + 1, 1, none⟩ = false := (hb3.frozen (p := ⟨wr.heap.size + 1, 1, none⟩) (by first | omega | (simp; done) | (simp; omega))).trans (by go_simp)
            have pfa : ∀ j, w3.frozen? ⟨wr.heap.size + 1, j, none⟩ = false := fun j => (hb3.frozen (p := ⟨wr.heap.size + 1, j, none⟩) (by first | omega | (simp; done) | (simp; omega))).trans (by go_simp)
            have lp3 : wr.heap.size + 1 < w3.heap.size := by omega
            go_wp2_with fail
            refine step_and (SameAt.below (by repeat (first | with_reducible assumption | with_reducible exact SameAt.refl _ | with_reducible refine SameAt.drew ?_ | with_reducible refine SameAt.alloc ?_ _ | (refine SameAt.below ?_ (by with_reducible assumption)))) hb3) (fun _ => ?_)
            clear hb3 hw3 hown3
            repeat
              first | refine lexO_pass rfl ?_ | (refine lexO_take2 ?_ rfl (by kernel_rfl) (by with_reducible assumption) (fun w' hS K Q' hK => ?_) ?_; rotate_left; focus (have hS2 := hS.2; clear hS; go_wp2_with fail; exact hK))
            refine lexO_do rfl (fun K hK => ?_) lexO_stop
            go_wp2_with fail
            refine step_and (by repeat (first | with_reducible assumption | with_reducible exact SameAt.refl _ | with_reducible refine SameAt.drew ?_ | with_reducible refine SameAt.alloc ?_ _ | (refine SameAt.below ?_ (by with_reducible assumption)))) (fun _ => ?_)
            repeat
              first | refine lexO_pass rfl ?_ | (refine lexO_take2 ?_ rfl (by kernel_rfl) (by with_reducible assumption) (fun w' hS K Q' hK => ?_) ?_; rotate_left; focus (have hS2 := hS.2; clear hS; go_wp2_with fail; exact hK))
            refine lexO_do rfl (fun K hK => ?_) lexO_stop
            go_wp2_with fail
            refine step_and (by repeat (first | with_reducible assumption | with_reducible exact SameAt.refl _ | with_reducible refine SameAt.drew ?_ | with_reducible refine SameAt.alloc ?_ _ | (refine SameAt.below ?_ (by with_reducible assumption)))) (fun _ => ?_)
            repeat
              first | refine lexO_pass rfl ?_ | (refine lexO_take2 ?_ rfl (by kernel_rfl) (by with_reducible assumption) (fun w' hS K Q' hK => ?_) ?_; rotate_left; focus (have hS2 := hS.2; clear hS; go_wp2_with fail; exact hK))
            refine lexO_do rfl (fun K hK => ?_) lexO_stop
            go_wp2_with fail
            first | refine step_last (by decide) (lexO_done ?_) | refine lexO_done ?_
            go_wp2_with fail
            go_meet
            refine ⟨wr.heap.size + 1, w3.heap.size, .slice q3' ma.length cq3', rfl, ⟨by first | omega | (simp; omega), by first | omega | (simp; omega), by first | omega | (simp; omega), by have h0 := HB5.out; exact (by repeat (first | with_reducible assumption | with_reducible refine Below.drew ?_ | with_reducible refine Below.alloc ?_ ?_ _ | with_reducible refine Below.setCell ?_ ?_ _ | with_reducible exact Nat.le_refl _ | omega | focus (simp; done) | focus (simp; omega))), by have h0 := HCP.out; exact (by (try simp only [heap_drew]); repeat (first | (with_reducible refine heap_last ?_; focus (simp; done)) | with_reducible refine heap_past ?_ | (with_reducible refine heap_set ?_ ?_; focus (first | omega | (simp; done) | (simp; omega))) | with_reducible assumption)), by  show _ = some ((Obj.cells #[.int .u64 t, .int .u64 a, .int .u64 nn, .int .u64 (ips.length : Int)] 39 (0, 0))); exact (by (try simp only [heap_drew]); repeat (first | (with_reducible refine heap_last ?_; focus (simp; done)) | with_reducible refine heap_past ?_ | (with_reducible refine heap_set ?_ ?_; focus (first | omega | (simp; done) | (simp; omega))) | with_reducible assumption)), by go_simp, by go_simp, fun j => by have hpj := pfa j; go_simp, ownsRow_keeps (ok := fun b => wr.heap.size + 2 ≤ b ∧ b < w3.heap.size) HOWN.out (by repeat (first | with_reducible assumption | with_reducible exact Keeps.refl _ _ | with_reducible refine Keeps.drew ?_ | with_reducible refine Keeps.alloc ?_ _ | with_reducible refine Keeps.setCell ?_ ?_ _ | omega | focus (simp; done) | focus (simp; omega))) HLO.out, fun k hk => by have := HLO.out k hk; constructor <;> omega⟩⟩
      case rest =>
        obtain ⟨wo, rfl⟩ : ∃ wo : World, wo = wr := ⟨_, rfl⟩
        obtain ⟨P, NB, v, rfl, hP⟩ := hcut
        have z4 : wc.cell? ⟨wo.heap.size, 4, none⟩ = some (.slice p4 ips.length q4) := cellsAt hP.copy 4
        have lC : wo.heap.size < wc.heap.size := (Array.getElem?_eq_some_iff.1 hP.copy).1
        have HPP := Lib.hid hP
        clear hP
        go_wp2_with fail
        go_loopw [24, 371] (fun _ i wr => ∃ (j : Nat) (v : Value), j ≤ ips.length ∧ i = .int .i64 (j : Int) ∧ PartAt wo wr (.cells #[.int .u8 t, .int .u8 a, .int .u16 nn, .slice p3 ma.length q3, .slice p4 ips.length q4, .slice p5 ab.length q5] 110 (0, 0)) P NB [t, a, nn, (ips.length : Int)] v (ma ++ (ips.take j).flatten)) (fun _ i _ => ips.length - (intOf i).toNat)
        case atStart => exact ⟨0, v, Nat.zero_le _, rfl, by simpa using HPP.out⟩
        case round =>
          clear z4 lC HPP
          obtain ⟨j, v, hj, rfl, hP⟩ := hrel
          have lP : P < wr.heap.size := World.block_lt_of_cell? _ _ hP.c0
          have c1 := hP.c1
          have fr1 := hP.fr 1
          have lC : wo.heap.size < wr.heap.size := (Array.getElem?_eq_some_iff.1 hP.copy).1
          have bl5 := flat_le bl3 j
          by_cases hlt2 : j < ips.length
          · obtain ⟨b4, o4, q, m, cq, d, rfl, lb4, ok4, hd4, rfl, hc4, hsd⟩ := (HIP.out.keeps (Keeps.of_below hP.below)).get hlt2
            have hjI : ((j : Nat) : Int) < ((ips.length : Nat) : Int) := by omega
            have hdl : d.length ≤ 1000 := bl3 d (List.mem_of_getElem? hd4)
            have HD4 := Lib.hid hd4
            have HSD := Lib.hid hsd
            have HPY := Lib.hid hP
            clear hP hd4 hsd
            go_wp2_with (first | (at_builtin; refine wpList_append_bytes (v := v) rfl _ _ 22 79 rfl Try.underlying22 Try.underlying79 rfl HPY.out.own rfl HSD.out (by simp only [List.length_append]; omega) (by omega) (fun p2 q2 n2 w2 ho2 hg2 ha2 => ?_); obtain ⟨g1, g2, g3⟩ := HPY.out.grown hg2.out))
            have HP2 := Lib.hid (HPY.out.step ho2.out hg2.out ha2.out)
            clear ho2 hg2 ha2
            go_wp2_with fail
            go_roundw
            case rel => exact ⟨j + 1, .slice p2 n2 q2, hlt2, by go_num, by have := HP2.out; rwa [List.append_assoc, flat_snoc HD4.out] at this⟩
            case measure => simp [intOf]; omega
          · obtain rfl : j = ips.length := by omega
            rw [List.take_length] at hP bl5
            have hjI : ¬ ((ips.length : Nat) : Int) < ((ips.length : Nat) : Int) := by omega
            have z5 : wr.cell? ⟨wo.heap.size, 5, none⟩ = some (.slice p5 ab.length q5) := cellsAt hP.copy 5
            have HPY := Lib.hid hP
            clear hP
            go_wp2_with (first | (at_builtin; refine wpList_append_bytes (v := v) rfl _ _ 22 22 rfl Try.underlying22 Try.underlying22 rfl HPY.out.own rfl (HAB.out.keeps (Keeps.of_below HPY.out.below)) (by simp only [List.length_append]; omega) (by omega) (fun p2 q2 n2 w2 ho2 hg2 ha2 => ?_); obtain ⟨g1, g2, g3⟩ := HPY.out.grown hg2.out))
            have HP2 := Lib.hid (HPY.out.step ho2.out hg2.out ha2.out)
            clear ho2 hg2 ha2
            go_wp2_with fail
            refine wp_gen (fun wz => PartAt wo wz (.cells #[.int .u8 t, .int .u8 a, .int .u16 nn, .slice p3 ma.length q3, .slice p4 ips.length q4, .slice p5 ab.length q5] 110 (0, 0)) P NB [t, a, nn, (ips.length : Int)] (.slice p2 n2 q2) (ma ++ ips.flatten ++ ab)) HP2.out (fun wz hZ => ?_)
            clear g1 g2 g3 HP2 HPY z5 c1 fr1 lP lC
            have zc0 : wz.cell? ⟨P, 0, none⟩ = some (.slice (some ⟨NB, 0, none⟩) 4 4) := hZ.c0
            have zc1 := hZ.c1
            have lP : P < wz.heap.size := World.block_lt_of_cell? _ _ hZ.c0
            have lCz : wo.heap.size < wz.heap.size := (Array.getElem?_eq_some_iff.1 hZ.copy).1
            have lPr := hZ.lP
            have lNr := hZ.lN
            have z2 : wz.cell? ⟨w1.heap.size, 2, none⟩ = some (.slice p k c') := (hZ.below.cell (p := ⟨w1.heap.size, 2, none⟩) lLr).trans e2
            have zf : wz.frozen? ⟨w1.heap.size, 2, none⟩ = false := (hZ.below.frozen (p := ⟨w1.heap.size, 2, none⟩) lLr).trans ef
            have lWz : W.heap.size ≤ wz.heap.size := by omega
            have lLz : w1.heap.size < wz.heap.size := by omega
            have HZ := Lib.hid hZ
            clear hZ
            refine wp_region_on (fun b => b < W.heap.size ∨ b = P) (fun b hb => by first | omega | (rcases hb with hb | hb <;> omega) | (rcases hb with hb | hb <;> simp <;> omega)) [10] (.q 0 (.q 1 (.q 2 (.q 3 (.q 4 (.q 5 (.l 6 (.l 7 (.q 8 (.q 9 (.l 10 .done .stop))) .stop) .stop))))))) (by kernel_rfl) (by kernel_rfl) (fun _ _ d _ _ h => by cases d <;> exact h) (by simp only [Ord.fill, nthOp]; rfl) ?_; intro hSm
            repeat
              first | refine lexO_pass rfl ?_ | (refine lexO_take2 ?_ rfl (by kernel_rfl) (by with_reducible assumption) (fun w' hS K Q' hK => ?_) ?_; rotate_left; focus (have hS2 := hS.2; clear hS; go_wp2_with fail; exact hK))
            refine lexO_do rfl (fun K hK => ?_) lexO_stop
            go_wp2_with fail
            refine step_and (by repeat (first | with_reducible assumption | (with_reducible refine SameOn.refl (fun b hb => ?_); first | omega | (rcases hb with hb | hb <;> omega) | (rcases hb with hb | hb <;> simp <;> omega)) | with_reducible refine SameOn.drew ?_ | with_reducible refine SameOn.alloc ?_ _ | (refine SameOn.below ?_ (by with_reducible assumption)))) (fun _ => ?_)
            repeat
              first | refine lexO_pass rfl ?_ | (refine lexO_take2 ?_ rfl (by kernel_rfl) (by with_reducible assumption) (fun w' hS K Q' hK => ?_) ?_; rotate_left; focus (have hS2 := hS.2; clear hS; go_wp2_with fail; exact hK))
            refine lexO_do rfl (fun K hK => ?_) lexO_stop
            refine wp_append_N2 (E := eP) (.tmp 391) (.tmp 393) 27 50 _ 48 rfl Try.underlying27 infoPart rfl (by decide) (by decide) (HF.out.rows.keeps (Keeps.trans (Keeps.of_below HZ.out.below) (by repeat (first | with_reducible assumption | with_reducible exact Keeps.refl _ _ | with_reducible refine Keeps.drew ?_ | with_reducible refine Keeps.alloc ?_ _ | with_reducible refine Keeps.setCell ?_ ?_ _ | omega | focus (simp; done) | focus (simp; omega))))) wo.heap.size (fun k hk => (HO.out k hk).2) rfl rfl (cs := [.slice (some ⟨NB, 0, none⟩) 4 4, .slice p2 n2 q2]) (y := p0) ?hcells ?hrep (by simp; omega) (by first | omega | (simp; omega)) (fun q' c2 w5 hr5 hs5 hk5 hb5 => hK _ _ ?_)
            case hcells =>
              intro j u hu
              rcases j with _ | _ | j
              · simp at hu; subst hu; go_simp
              · simp at hu; subst hu; go_simp
              · simp at hu
            case hrep =>
              have hnb : wz.heap[NB]? = some (.cells #[.int .u64 t, .int .u64 a, .int .u64 nn, .int .u64 (ips.length : Int)] 39 (0, 0)) := HZ.out.nb
              rw [HP0.out]
              refine ⟨_, _, rfl, IsSl.block (cs := #[.int .u64 t, .int .u64 a, .int .u64 nn, .int .u64 (ips.length : Int)]) (e := 39) (f := (0, 0)) (by (try simp only [heap_drew]); repeat (first | (with_reducible refine heap_last ?_; focus (simp; done)) | with_reducible refine heap_past ?_ | (with_reducible refine heap_set ?_ ?_; focus (first | omega | (simp; done) | (simp; omega))) | with_reducible assumption)) ⟨⟨by omega, by omega⟩, .inr (by omega)⟩ (by decide), (((SB.own HZ.out.own).keeps (by repeat (first | with_reducible assumption | with_reducible exact Keeps.refl _ _ | with_reducible refine Keeps.drew ?_ | with_reducible refine Keeps.alloc ?_ _ | with_reducible refine Keeps.setCell ?_ ?_ _ | omega | focus (simp; done) | focus (simp; omega)))).imp (fun b _ hb => ⟨⟨by omega, by omega⟩, .inr (by omega)⟩))⟩
            refine step_and (SameOn.keeps (by repeat (first | with_reducible assumption | (with_reducible refine SameOn.refl (fun b hb => ?_); first | omega | (rcases hb with hb | hb <;> omega) | (rcases hb with hb | hb <;> simp <;> omega)) | with_reducible refine SameOn.drew ?_ | with_reducible refine SameOn.alloc ?_ _ | (refine SameOn.below ?_ (by with_reducible assumption)))) hk5 (fun b hb => by omega)) (fun _ => ?_)
            rw [show (ps.take k).length = k by simp; omega] at hr5
            have hL5 : w5.cell? ⟨w1.heap.size, 2, none⟩ = some (.slice p k c') := hk5.cell (.inl lL) (by go_simp)
            have hf5 : w5.frozen? ⟨w1.heap.size, 2, none⟩ = false := hk5.frozen (.inl lL) (by first | omega | (simp; omega)) (by go_simp)
            have l5 : w1.heap.size < w5.heap.size := World.block_lt_of_cell? _ _ hL5
            have H5 := Lib.hid (HF.out.step (w5 := w5) (fun b hb => hb.2) (show Below wo.heap.size wo _ from (by have h0 := HZ.out.below; exact (by repeat (first | with_reducible assumption | with_reducible refine Below.drew ?_ | with_reducible refine Below.alloc ?_ ?_ _ | with_reducible refine Below.setCell ?_ ?_ _ | with_reducible exact Nat.le_refl _ | omega | focus (simp; done) | focus (simp; omega))))) hr5 hs5 (hk5.imp (fun b hb => .inl hb)) hb5)
            clear hr5 hs5 hk5 hb5
            repeat
              first | refine lexO_pass rfl ?_ | (refine lexO_take2 ?_ rfl (by kernel_rfl) (by with_reducible assumption) (fun w' hS K Q' hK => ?_) ?_; rotate_left; focus (have hS2 := hS.2; clear hS; go_wp2_with fail; exact hK))
            refine lexO_do rfl (fun K hK => ?_) lexO_stop
            go_wp2_with fail
            first | refine step_last (by decide) (lexO_done ?_) | refine lexO_done ?_
            go_wp2_with fail
            go_roundw
            case rel => exact ⟨k + 1, hlt, by go_num, _, by have := H5.out; rwa [take_snoc4 HDK.out] at this⟩
            case measure => simp [intOf]; omega
    · obtain rfl : k = ps.length := by omega
      have hkI : ¬ ((ps.length : Nat) : Int) < ((ps.length : Nat) : Int) := by omega
      go_wp2_with fail
      refine bodyPost_ret (v := .tuple #[.agg #[.slice (some ⟨w1.heap.size + 1, 0, none⟩) 1 1, .slice none 0 0, .slice p ps.length c', .slice q pay.length cq], .bool true]) (by simp only [results, Try.results36]; go_simp) rfl ?_
      have hF := HF.out
      rw [List.take_length] at hF
      have h0 : Below w.heap.size w wr := hF.below _ _ (by omega) HK.out.2
      refine ⟨_, rfl, ((hF.lay (ok' := fun b => w.heap.size < b) rfl HN3.out.1 HN3.out.2.1 HN3.out.2.2 (fun b hb => hb.2) (fun b hb => by omega) (fun b hb => hb.1) (fun b hb => hb.1)).keeps (by repeat (first | with_reducible assumption | with_reducible exact Keeps.refl _ _ | with_reducible refine Keeps.drew ?_ | with_reducible refine Keeps.alloc ?_ _ | with_reducible refine Keeps.setCell ?_ ?_ _ | omega | focus (simp; done) | focus (simp; omega)))).imp (fun b _ hb => by omega), (by repeat (first | with_reducible assumption | with_reducible refine Below.drew ?_ | with_reducible refine Below.alloc ?_ ?_ _ | with_reducible refine Below.setCell ?_ ?_ _ | with_reducible exact Nat.le_refl _ | omega | focus (simp; done) | focus (simp; omega)))⟩
end Go.Proofs.Ytaofambmajlhmaa
