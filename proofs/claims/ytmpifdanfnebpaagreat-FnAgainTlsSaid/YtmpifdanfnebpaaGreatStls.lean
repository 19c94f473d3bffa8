/-
  spec.tls.
-/
import Derived.Test.YtmpifdanfnebpaaGreatHelp
import Derived.Test.YtmpifdanfnebpaaGreatMany
import Derived.Deep.DeepCutAuto
namespace Go.Proofs.YtmpifdanfnebpaaGreat
open Go Go.RowKit

def TlsPost (all : List Int) (R : Nat) (e : Ending) (w' : World) : Prop :=
  (dTls all = none ∧ e = .returned (.tuple #[zlay, .bool false, .bool false])) ∨ (dTls all = some none ∧ e = .returned (.tuple #[zlay, .bool false, .bool true])) ∨
    ∃ rs v, dTls all = some (some rs) ∧ e = .returned (.tuple #[v, .bool true, .bool true]) ∧ LayOn w' (fun b => b ≠ R) v ⟨[], [], tAll rs, []⟩

/-- What an element may lie in. -/
def okB (y r R : Nat) (b : Nat) : Prop := b ≠ y ∧ b ≠ r ∧ b ≠ R
def okF (y r R : Nat) (v : Nat → Value) (N : Nat) (b : Nat) : Prop := (okB y r R b ∧ ∀ j, j < 4 → (v j).ownBlock ≠ some b) ∧ b < N

/-- The parts of the first k lists. -/
def tPre (k : Nat) (rs : List (Nat × (List Int × List Int))) : List (List Int × List Int) := ((List.range k).map fun i => tOf i rs).flatten
theorem tPre_succ (k : Nat) (rs : List (Nat × (List Int × List Int))) : tPre (k + 1) rs = tPre k rs ++ tOf k rs := by simp [tPre, List.range_succ]
theorem tPre_four (rs : List (Nat × (List Int × List Int))) : tPre 4 rs = tAll rs := by
  rw [tPre_succ, tPre_succ, tPre_succ, tPre_succ]
  simp [tAll, tPre]
theorem tOf_le (i : Nat) (rs : List (Nat × (List Int × List Int))) : (tOf i rs).length ≤ rs.length := List.length_filterMap_le _ _
theorem tPre_le (k : Nat) (rs : List (Nat × (List Int × List Int))) : (tPre k rs).length ≤ k * rs.length := by
  induction k with
  | zero => simp [tPre]
  | succ k ih =>
    rw [tPre_succ, List.length_append, Nat.succ_mul]
    have := tOf_le k rs
    omega
theorem tRec20 {v : Int} {body : List Int} (h : body.length ≠ 1) : tRec 20 v body = none := by
  unfold tRec
  rw [if_pos rfl, if_neg (fun e => by rw [e] at h; simp at h)]
theorem idx4_0 (a b c d : Value) (W : World) : (Instr.index 64 (.agg #[a, b, c, d]) (.int .i64 0)).run Tryz.prog W = .ok a W := by kernel_rfl
theorem idx4_1 (a b c d : Value) (W : World) : (Instr.index 64 (.agg #[a, b, c, d]) (.int .i64 1)).run Tryz.prog W = .ok b W := by kernel_rfl
theorem idx4_2 (a b c d : Value) (W : World) : (Instr.index 64 (.agg #[a, b, c, d]) (.int .i64 2)).run Tryz.prog W = .ok c W := by kernel_rfl
theorem idx4_3 (a b c d : Value) (W : World) : (Instr.index 64 (.agg #[a, b, c, d]) (.int .i64 3)).run Tryz.prog W = .ok d W := by kernel_rfl
theorem tRec20z {v z : Int} (h : ¬ z = 1) : tRec 20 v [z] = none := by
  unfold tRec
  rw [if_pos rfl, if_neg (fun e => h (by simpa using e))]
theorem tRec22 {v : Int} {body : List Int} {N : Nat} (h : body.length = N) : tRec 22 v body = some (1, ([1, 22, v, (N : Int)], [])) := by
  unfold tRec
  rw [if_neg (by decide), if_neg (by decide), if_pos rfl, h]
theorem tRec23 {v : Int} {body : List Int} {N : Nat} (h : body.length = N) : tRec 23 v body = some (2, ([2, 23, v, (N : Int)], body)) := by
  unfold tRec
  rw [if_neg (by decide), if_neg (by decide), if_neg (by decide), h]
theorem tRec21 {v : Int} {body : List Int} (h : body.length ≠ 2) : tRec 21 v body = none := by
  unfold tRec
  rw [if_neg (by decide), if_pos rfl]
  match body, h with
  | [], _ => rfl
  | [_], _ => rfl
  | [_, _], h => simp at h
  | _ :: _ :: _ :: _, _ => rfl
theorem set_head {w : World} {b : Nat} {x y1 y2 y3 : Value} {e : TypeId} (h : w.heap[b]? = some (.cells #[x, y1, y2, y3] e (0, 0))) (v : Value) : (w.setCell ⟨b, 0, none⟩ v).heap[b]? = some (.cells #[v, y1, y2, y3] e (0, 0)) := by
  simp only [World.setCell, Array.getElem?_modify, if_true, h, Option.map_some]
  rfl

set_option maxRecDepth 100000 in
set_option maxHeartbeats 16000000 in
theorem tls_walk {g o n c R : Nat} {bs : List Int} {w : World} (hn : n = bs.length) (hc : n ≤ c) (hm : c ≤ 9223372036854775807) (hLIM : n ≤ 2147483648) (hgR : g ≠ R) (h5 : 5 ≤ n) (hall : ∀ z ∈ bs, 0 ≤ z ∧ z ≤ 255)
    (hR : R < w.heap.size) (hr : RowAt w (fun b => b ≠ R) (some ⟨g, o, none⟩) (bs.map (.int .u8))) :
    Calls Tryz.prog 21 #[.slice (some ⟨g, o, none⟩) n c] w fun e w' => TlsPost bs R e w' ∧ Below w.heap.size w w' := by
  have HBB := Lib.hid hall
  have HR := Lib.hid hr
  have HN := Lib.hid hn
  obtain ⟨hg, -⟩ := rowCells hr (by intro e; have := congrArg List.length e; rw [List.length_map, List.length_nil] at this; omega)
  clear hr hall hn
  go_enter Tryz.func21, Tryz.ntmps21
  go_wp2_with fail
  refine wp_gen (fun W => (∀ i, i < 4 → W.cell? ⟨w.heap.size + 1, 0 + i, none⟩ = some (.slice none 0 0)) ∧ (∀ j, W.frozen? ⟨w.heap.size + 1, j, none⟩ = false) ∧ w.heap.size + 1 < W.heap.size ∧
    (W.cell? ⟨w.heap.size, 0, none⟩ = some (.slice none 0 0) ∧ W.cell? ⟨w.heap.size, 1, none⟩ = some (.slice none 0 0) ∧ W.cell? ⟨w.heap.size, 2, none⟩ = some (.slice none 0 0) ∧ W.cell? ⟨w.heap.size, 3, none⟩ = some (.slice none 0 0)) ∧
    (W.frozen? ⟨w.heap.size, 0, none⟩ = false ∧ W.frozen? ⟨w.heap.size, 1, none⟩ = false ∧ W.frozen? ⟨w.heap.size, 2, none⟩ = false ∧ W.frozen? ⟨w.heap.size, 3, none⟩ = false) ∧
    Keeps (fun b => b < w.heap.size) w W ∧ Below w.heap.size w W) ?F (fun W hW => ?_)
  case F =>
    have h0 := Below.refl w.heap.size w
    refine ⟨fun i hi => ?_, fun j => by go_simp, by first | omega | (simp; done) | (simp; omega), ⟨by go_simp, by go_simp, by go_simp, by go_simp⟩, ⟨by go_simp, by go_simp, by go_simp, by go_simp⟩, (by repeat (first | with_reducible assumption | with_reducible exact Keeps.refl _ _ | with_reducible refine Keeps.drew ?_ | with_reducible refine Keeps.drewN ?_ _ | with_reducible refine Keeps.alloc ?_ _ | with_reducible refine Keeps.setCell ?_ ?_ _ | omega | focus (simp; done) | focus (simp; omega))), (by repeat (first | with_reducible assumption | with_reducible refine Below.drew ?_ | with_reducible refine below_drewN' ?_ _ | with_reducible refine Below.alloc ?_ ?_ _ | with_reducible refine Below.setCell ?_ ?_ _ | with_reducible exact Nat.le_refl _ | omega | focus (simp; done) | focus (simp; omega)))⟩
    rcases i with _ | _ | _ | _ | i
    · go_simp
    · go_simp
    · go_simp
    · go_simp
    · omega
  obtain ⟨lcs, lf, lYW, ⟨wr0, wr1, wr2, wr3⟩, ⟨wf0, wf1, wf2, wf3⟩, kW, bW⟩ := hW
  have HF0 := Lib.hid (Four.start (E := fun _ => eP) (T := fun _ => 44) (ok := okB (w.heap.size + 1) w.heap.size R) lYW (Nat.le_refl _) lcs lf)
  have HK := Lib.hid (And.intro kW bW)
  have wL : w.heap.size < W.heap.size := World.block_lt_of_cell? _ _ wr0
  clear lcs lf kW bW
  go_loopw [0, 6, 7, 8] (fun s _ _ _ wr => ∃ (j : Nat) (D : Option Addr) (l e : Nat) (v : Nat → Value) (recs : List (Nat × (List Int × List Int))), s = .slice D l e ∧ j + l = n ∧ e = c - j ∧ (0 < l → D = some ⟨g, o + j, none⟩) ∧ 5 * recs.length ≤ j ∧
    Four (fun _ => eP) (fun _ => 44) 0 wr (w.heap.size + 1) W.heap.size (okB (w.heap.size + 1) w.heap.size R) v (fun i => tOf i recs) ∧ Hid (Below (w.heap.size + 1) W wr) ∧ ReadsT bs recs (bs.drop j)) (fun s _ _ _ _ => match s with | .slice _ l _ => l | _ => 0)
  case atStart => exact ⟨0, some ⟨g, o, none⟩, n, c, _, [], rfl, by omega, by omega, fun _ => rfl, by simp, HF0.out, Lib.hid (Below.refl _ _), ReadsT.start _⟩
  case round =>
    obtain ⟨j, D, l, e, v, recs, rfl, hj, he, hD, hrl, hF, HBW, hrd⟩ := hrel
    have HF := Lib.hid hF
    have leW := hF.le
    have lYr : w.heap.size + 1 < wr.heap.size := by omega
    have lwr : w.heap.size < wr.heap.size := by omega
    have lgr : g < wr.heap.size := by omega
    have lgr1 : g < wr.heap.size + 1 := by omega
    have lgr2 : g < wr.heap.size + 1 + 1 := by omega
    have v0 := (HBW.out.cell (p := ⟨w.heap.size, 0, none⟩) (Nat.lt_succ_self _)).trans wr0
    have v1 := (HBW.out.cell (p := ⟨w.heap.size, 1, none⟩) (Nat.lt_succ_self _)).trans wr1
    have v2 := (HBW.out.cell (p := ⟨w.heap.size, 2, none⟩) (Nat.lt_succ_self _)).trans wr2
    have v3 := (HBW.out.cell (p := ⟨w.heap.size, 3, none⟩) (Nat.lt_succ_self _)).trans wr3
    have f0 := (HBW.out.frozen (p := ⟨w.heap.size, 0, none⟩) (Nat.lt_succ_self _)).trans wf0
    have f1 := (HBW.out.frozen (p := ⟨w.heap.size, 1, none⟩) (Nat.lt_succ_self _)).trans wf1
    have f2 := (HBW.out.frozen (p := ⟨w.heap.size, 2, none⟩) (Nat.lt_succ_self _)).trans wf2
    have f3 := (HBW.out.frozen (p := ⟨w.heap.size, 3, none⟩) (Nat.lt_succ_self _)).trans wf3
    have HKG := Lib.hid ((HK.out.1.imp (fun b hb => hb.1 : ∀ b, b < w.heap.size ∧ b ≠ R → b < w.heap.size)).trans ⟨HBW.out.size, fun b hb _ => HBW.out.block b (by omega)⟩)
    have HJ := Lib.hid hj
    have HE := Lib.hid he
    have HD := Lib.hid hD
    have HRL := Lib.hid hrl
    have HRD := Lib.hid hrd
    clear hF hj he hD hrl hrd
    by_cases hl0 : l = 0
    · have hl0 := hl0
      have hl1 : ¬ (0 : Int) < (l : Int) := by omega
      have c0 : wr.cell? ⟨w.heap.size + 1, 0, none⟩ = some (v 0) := by simpa using HF.out.cells 0 (by omega)
      have c1 : wr.cell? ⟨w.heap.size + 1, 1, none⟩ = some (v 1) := by simpa using HF.out.cells 1 (by omega)
      have c2 : wr.cell? ⟨w.heap.size + 1, 2, none⟩ = some (v 2) := by simpa using HF.out.cells 2 (by omega)
      have c3 : wr.cell? ⟨w.heap.size + 1, 3, none⟩ = some (v 3) := by simpa using HF.out.cells 3 (by omega)
      have hD := HRD.out
      rw [show bs.drop j = [] from List.drop_eq_nil_of_le (by have := HN.out; have := HJ.out; omega)] at hD
      unfold ReadsT at hD
      rw [dTls_nil] at hD
      have HDD := Lib.hid hD
      clear hD
      go_wp2_with fail
      obtain ⟨L, hL⟩ : ∃ L, L = wr.heap.size := ⟨_, rfl⟩
      rw [← hL]
      refine wp_gen (fun W2 => (W2.cell? ⟨L, 0, none⟩ = some (.slice none 0 0) ∧ W2.cell? ⟨L, 1, none⟩ = some (.slice none 0 0) ∧ W2.cell? ⟨L, 2, none⟩ = some (.slice none 0 0) ∧ W2.cell? ⟨L, 3, none⟩ = some (.slice none 0 0)) ∧ (∀ j, W2.frozen? ⟨L, j, none⟩ = false) ∧ L < W2.heap.size ∧ Below wr.heap.size wr W2) ?E (fun W2 hW2 => ?_)
      case E =>
        subst hL
        exact ⟨⟨by go_simp, by go_simp, by go_simp, by go_simp⟩, fun j => by go_simp, by first | omega | (simp; done) | (simp; omega), by have h0 := Below.refl wr.heap.size wr; exact (by repeat (first | with_reducible assumption | with_reducible refine Below.drew ?_ | with_reducible refine below_drewN' ?_ _ | with_reducible refine Below.alloc ?_ ?_ _ | with_reducible refine Below.setCell ?_ ?_ _ | with_reducible exact Nat.le_refl _ | omega | focus (simp; done) | focus (simp; omega)))⟩
      obtain ⟨⟨lc0, lc1, lc2, lc3⟩, lf, lL, hB2⟩ := hW2
      have HRW := Lib.hid (show ∀ k, k < 4 → Rows eP W2 W.heap.size (fun b => okB (w.heap.size + 1) w.heap.size R b ∧ b < L) 44 (v k) (tOf k recs) from fun k hk => ((HF.out.row hk).imp (Nat.le_refl _) (fun b _ hb => ⟨hb.1.1, by rw [hL]; exact hb.2⟩)).keeps2 (Keeps.of_below hB2))
      have HOW := Lib.hid (show ∀ i k, i < 4 → (v i).ownBlock = some k → W.heap.size ≤ k ∧ k < L from fun i k hi hk => by rw [hL]; exact HF.out.own hi hk)
      have HF0 := Lib.hid (Fills.start (ok := fun b => okB (w.heap.size + 1) w.heap.size R b ∧ b ≠ L) lL (Nat.le_refl _) lc2 lf)
      have HBL := Lib.hid (show Below (w.heap.size + 1) W W2 from HBW.out.trans (hB2.mono (by omega)))
      have r0 := (hB2.cell (p := ⟨w.heap.size, 0, none⟩) lwr).trans v0
      have r1 := (hB2.cell (p := ⟨w.heap.size, 1, none⟩) lwr).trans v1
      have r2 := (hB2.cell (p := ⟨w.heap.size, 2, none⟩) lwr).trans v2
      have r3 := (hB2.cell (p := ⟨w.heap.size, 3, none⟩) lwr).trans v3
      have s0 := (hB2.frozen (p := ⟨w.heap.size, 0, none⟩) lwr).trans f0
      have s1 := (hB2.frozen (p := ⟨w.heap.size, 1, none⟩) lwr).trans f1
      have s2 := (hB2.frozen (p := ⟨w.heap.size, 2, none⟩) lwr).trans f2
      have s3 := (hB2.frozen (p := ⟨w.heap.size, 3, none⟩) lwr).trans f3
      have lw2 : w.heap.size < W2.heap.size := World.block_lt_of_cell? _ _ r0
      have lwL : w.heap.size + 1 < L := by omega
      have HRL2 := Lib.hid (show 5 * recs.length ≤ n from Nat.le_trans HRL.out (by have := HJ.out; omega))
      clear lf hB2 v0 v1 v2 v3 f0 f1 f2 f3 c0 c1 c2 c3 hL
      go_loopw [11, 151] (fun _ i w2 => ∃ k : Nat, k ≤ 4 ∧ i = .int .i64 (k : Int) ∧ ∃ pv, Fills W2 w2 L W2.heap.size (fun b => okB (w.heap.size + 1) w.heap.size R b ∧ b ≠ L) pv (tPre k recs)) (fun _ i _ => 4 - (intOf i).toNat)
      case atStart => exact ⟨0, Nat.zero_le _, rfl, _, HF0.out⟩
      case round =>
        obtain ⟨k, hk, rfl, pv, hF2⟩ := hrel
        have HF2 := Lib.hid hF2
        have lL2 : L < wr.heap.size := Nat.lt_of_lt_of_le hF2.lt hF2.le
        have le2 := hF2.le
        have e2 := hF2.parts
        have ef := hF2.froz 2
        have hown := hF2.rows.own
        obtain ⟨pp, pc, hpv⟩ := hF2.rows.form
        obtain ⟨m, hm⟩ : ∃ m, m = (tPre k recs).length := ⟨_, rfl⟩
        rw [← hm] at hpv
        subst hpv
        have HO2 := Lib.hid hown
        have HM2 := Lib.hid hm
        have e0 := hF2.other 0 _ (by decide) lc0
        have e1 := hF2.other 1 _ (by decide) lc1
        have e3 := hF2.other 3 _ (by decide) lc3
        have t0 := hF2.keep.cell (b := w.heap.size) (by constructor <;> omega) r0
        have t1 := hF2.keep.cell (b := w.heap.size) (by constructor <;> omega) r1
        have t2 := hF2.keep.cell (b := w.heap.size) (by constructor <;> omega) r2
        have t3 := hF2.keep.cell (b := w.heap.size) (by constructor <;> omega) r3
        have u0 := hF2.keep.frozen (b := w.heap.size) (by constructor <;> omega) lw2 s0
        have u1 := hF2.keep.frozen (b := w.heap.size) (by constructor <;> omega) lw2 s1
        have u2 := hF2.keep.frozen (b := w.heap.size) (by constructor <;> omega) lw2 s2
        have u3 := hF2.keep.frozen (b := w.heap.size) (by constructor <;> omega) lw2 s3
        have lwr2 : w.heap.size < wr.heap.size := by omega
        have nwL : ¬ w.heap.size = L := by omega
        have nLw : ¬ L = w.heap.size := by omega
        clear hF2 hown hm
        have hcase : k = 0 ∨ k = 1 ∨ k = 2 ∨ k = 3 ∨ k = 4 := by omega
        rcases hcase with rfl | rfl | rfl | rfl | rfl
        · have HV := Lib.hid (((HRW.out 0 (by omega)).keeps2 (w' := wr) (HF2.out.keep.imp (fun b hb => by
            rcases hb with hb | hb
            · exact ⟨by omega, by omega⟩
            · have := HOW.out 0 b (by omega) hb
              exact ⟨by omega, by omega⟩))).imp (ok' := fun b => (okB (w.heap.size + 1) w.heap.size R b ∧ b ≠ L) ∧ some b ≠ (Value.slice pp m pc).ownBlock) (Nat.le_refl _) (fun b _ hb => ⟨⟨hb.1, by omega⟩, fun he => by have := (HO2.out b he.symm).1; omega⟩))
          have hix := idx4_0 (v 0) (v 1) (v 2) (v 3)
          have HLEN := Lib.hid (show (tPre 0 recs).length + (tOf 0 recs).length ≤ 2147483648 from by have := tOf_le 0 recs; have := tPre_le 0 recs; have := HRL2.out; have := hLIM; omega)
          go_wp2_with (at_builtin; refine wpList_append_rows2 (E := eP) rfl (.tmp 155) (.tmp 156) 27 44 _ 48 rfl Tryz.underlying27 infoPart rfl (by decide) (by decide) (v := .slice pp m pc) rfl HF2.out.rows (u := v 0) rfl HV.out HLEN.out (by omega) ?_)
          intro p' c' w6 hr6 hg6 ha6
          have H6 := Lib.hid (HF2.out.many (fun b hb => hb.2) hr6.out hg6.out)
          have hk6 := grown_keeps (N := W2.heap.size) hg6.out (fun k hk => (HO2.out k hk).1)
          have hL6 : w6.cell? ⟨L, 2, none⟩ = some (.slice pp m pc) := hk6.cell lL e2
          have hf6 : w6.frozen? ⟨L, 2, none⟩ = false := hk6.frozen lL lL2 ef
          have l6 : L < w6.heap.size := World.block_lt_of_cell? _ _ hL6
          clear hr6 hg6 ha6 hk6
          go_wp2_with fail
          go_roundw
          case rel => exact ⟨0 + 1, by omega, by first | rfl | go_num, _, by have h := H6.out; rw [← tPre_succ] at h; exact h⟩
          case measure => simp [intOf]
        · have HV := Lib.hid (((HRW.out 1 (by omega)).keeps2 (w' := wr) (HF2.out.keep.imp (fun b hb => by
            rcases hb with hb | hb
            · exact ⟨by omega, by omega⟩
            · have := HOW.out 1 b (by omega) hb
              exact ⟨by omega, by omega⟩))).imp (ok' := fun b => (okB (w.heap.size + 1) w.heap.size R b ∧ b ≠ L) ∧ some b ≠ (Value.slice pp m pc).ownBlock) (Nat.le_refl _) (fun b _ hb => ⟨⟨hb.1, by omega⟩, fun he => by have := (HO2.out b he.symm).1; omega⟩))
          have hix := idx4_1 (v 0) (v 1) (v 2) (v 3)
          have HLEN := Lib.hid (show (tPre 1 recs).length + (tOf 1 recs).length ≤ 2147483648 from by have := tOf_le 1 recs; have := tPre_le 1 recs; have := HRL2.out; have := hLIM; omega)
          go_wp2_with (at_builtin; refine wpList_append_rows2 (E := eP) rfl (.tmp 155) (.tmp 156) 27 44 _ 48 rfl Tryz.underlying27 infoPart rfl (by decide) (by decide) (v := .slice pp m pc) rfl HF2.out.rows (u := v 1) rfl HV.out HLEN.out (by omega) ?_)
          intro p' c' w6 hr6 hg6 ha6
          have H6 := Lib.hid (HF2.out.many (fun b hb => hb.2) hr6.out hg6.out)
          have hk6 := grown_keeps (N := W2.heap.size) hg6.out (fun k hk => (HO2.out k hk).1)
          have hL6 : w6.cell? ⟨L, 2, none⟩ = some (.slice pp m pc) := hk6.cell lL e2
          have hf6 : w6.frozen? ⟨L, 2, none⟩ = false := hk6.frozen lL lL2 ef
          have l6 : L < w6.heap.size := World.block_lt_of_cell? _ _ hL6
          clear hr6 hg6 ha6 hk6
          go_wp2_with fail
          go_roundw
          case rel => exact ⟨1 + 1, by omega, by first | rfl | go_num, _, by have h := H6.out; rw [← tPre_succ] at h; exact h⟩
          case measure => simp [intOf]
        · have HV := Lib.hid (((HRW.out 2 (by omega)).keeps2 (w' := wr) (HF2.out.keep.imp (fun b hb => by
            rcases hb with hb | hb
            · exact ⟨by omega, by omega⟩
            · have := HOW.out 2 b (by omega) hb
              exact ⟨by omega, by omega⟩))).imp (ok' := fun b => (okB (w.heap.size + 1) w.heap.size R b ∧ b ≠ L) ∧ some b ≠ (Value.slice pp m pc).ownBlock) (Nat.le_refl _) (fun b _ hb => ⟨⟨hb.1, by omega⟩, fun he => by have := (HO2.out b he.symm).1; omega⟩))
          have hix := idx4_2 (v 0) (v 1) (v 2) (v 3)
          have HLEN := Lib.hid (show (tPre 2 recs).length + (tOf 2 recs).length ≤ 2147483648 from by have := tOf_le 2 recs; have := tPre_le 2 recs; have := HRL2.out; have := hLIM; omega)
          go_wp2_with (at_builtin; refine wpList_append_rows2 (E := eP) rfl (.tmp 155) (.tmp 156) 27 44 _ 48 rfl Tryz.underlying27 infoPart rfl (by decide) (by decide) (v := .slice pp m pc) rfl HF2.out.rows (u := v 2) rfl HV.out HLEN.out (by omega) ?_)
          intro p' c' w6 hr6 hg6 ha6
          have H6 := Lib.hid (HF2.out.many (fun b hb => hb.2) hr6.out hg6.out)
          have hk6 := grown_keeps (N := W2.heap.size) hg6.out (fun k hk => (HO2.out k hk).1)
          have hL6 : w6.cell? ⟨L, 2, none⟩ = some (.slice pp m pc) := hk6.cell lL e2
          have hf6 : w6.frozen? ⟨L, 2, none⟩ = false := hk6.frozen lL lL2 ef
          have l6 : L < w6.heap.size := World.block_lt_of_cell? _ _ hL6
          clear hr6 hg6 ha6 hk6
          go_wp2_with fail
          go_roundw
          case rel => exact ⟨2 + 1, by omega, by first | rfl | go_num, _, by have h := H6.out; rw [← tPre_succ] at h; exact h⟩
          case measure => simp [intOf]
        · have HV := Lib.hid (((HRW.out 3 (by omega)).keeps2 (w' := wr) (HF2.out.keep.imp (fun b hb => by
            rcases hb with hb | hb
            · exact ⟨by omega, by omega⟩
            · have := HOW.out 3 b (by omega) hb
              exact ⟨by omega, by omega⟩))).imp (ok' := fun b => (okB (w.heap.size + 1) w.heap.size R b ∧ b ≠ L) ∧ some b ≠ (Value.slice pp m pc).ownBlock) (Nat.le_refl _) (fun b _ hb => ⟨⟨hb.1, by omega⟩, fun he => by have := (HO2.out b he.symm).1; omega⟩))
          have hix := idx4_3 (v 0) (v 1) (v 2) (v 3)
          have HLEN := Lib.hid (show (tPre 3 recs).length + (tOf 3 recs).length ≤ 2147483648 from by have := tOf_le 3 recs; have := tPre_le 3 recs; have := HRL2.out; have := hLIM; omega)
          go_wp2_with (at_builtin; refine wpList_append_rows2 (E := eP) rfl (.tmp 155) (.tmp 156) 27 44 _ 48 rfl Tryz.underlying27 infoPart rfl (by decide) (by decide) (v := .slice pp m pc) rfl HF2.out.rows (u := v 3) rfl HV.out HLEN.out (by omega) ?_)
          intro p' c' w6 hr6 hg6 ha6
          have H6 := Lib.hid (HF2.out.many (fun b hb => hb.2) hr6.out hg6.out)
          have hk6 := grown_keeps (N := W2.heap.size) hg6.out (fun k hk => (HO2.out k hk).1)
          have hL6 : w6.cell? ⟨L, 2, none⟩ = some (.slice pp m pc) := hk6.cell lL e2
          have hf6 : w6.frozen? ⟨L, 2, none⟩ = false := hk6.frozen lL lL2 ef
          have l6 : L < w6.heap.size := World.block_lt_of_cell? _ _ hL6
          clear hr6 hg6 ha6 hk6
          go_wp2_with fail
          go_roundw
          case rel => exact ⟨3 + 1, by omega, by first | rfl | go_num, _, by have h := H6.out; rw [← tPre_succ] at h; exact h⟩
          case measure => simp [intOf]
        · go_wp2_with fail
          refine bodyPost_ret (v := .tuple #[.agg #[.slice none 0 0, .slice none 0 0, .slice pp m pc, .slice none 0 0], .bool true, .bool true]) (by simp only [results, Tryz.results21]; go_simp) rfl ?_
          have hF := HF2.out
          have h0 : Below w.heap.size w wr := HK.out.2.trans ((hF.below _ _ (by omega) HBL.out).mono (by omega))
          have hlay := hF.lay (ok2 := fun b => b < 0) (nums := []) (data := []) (pay := []) (ok' := fun b => b ≠ w.heap.size ∧ b ≠ R) rfl (SN.nil _ _) (SD.nil _ _) (SB.nil _ _) (fun b hb => by omega) (fun b hb => ⟨by omega, by omega⟩) (fun b hb => hb.1.2) (fun b hb => absurd hb (Nat.not_lt_zero b))
          refine ⟨.inr (.inr ⟨recs, _, by rw [HDD.out]; simp, rfl, ?_⟩), (by repeat (first | with_reducible assumption | with_reducible refine Below.drew ?_ | with_reducible refine below_drewN' ?_ _ | with_reducible refine Below.alloc ?_ ?_ _ | with_reducible refine Below.setCell ?_ ?_ _ | with_reducible exact Nat.le_refl _ | omega | focus (simp; done) | focus (simp; omega)))⟩
          rw [← tPre_four]
          exact (hlay.keeps (by repeat (first | with_reducible assumption | with_reducible exact Keeps.refl _ _ | with_reducible refine Keeps.drew ?_ | with_reducible refine Keeps.drewN ?_ _ | with_reducible refine Keeps.alloc ?_ _ | with_reducible refine Keeps.setCell ?_ ?_ _ | omega | focus (simp; done) | focus (simp; omega)))).imp (fun b _ hb => hb.2)
    · have hl1 : (0 : Int) < (l : Int) := by omega
      obtain ⟨O, hO⟩ : ∃ O, O = o + j := ⟨_, rfl⟩
      have hD' := HD.out (by omega)
      rw [← hO] at hD'
      obtain rfl := hD'
      have HOO := Lib.hid hO
      clear hO
      have hdl : (bs.drop j).length = l := by have := HN.out; have := HJ.out; simp; omega
      by_cases hl5 : l < 5
      · have hl2 : (l : Int) < 5 := by omega
        have HDd := Lib.hid hdl
        clear hdl
        go_wp2_with (go_at_call 12; refine none_c.mono ?_; rintro e w' ⟨rfl, rfl⟩)
        refine bodyPost_ret (v := .tuple #[zlay, .bool false, .bool true]) (by simp only [results, Tryz.results21]; go_simp) rfl ?_
        have h0 : Below w.heap.size w wr := HK.out.2.trans (HBW.out.mono (by omega))
        have hD := HRD.out
        unfold ReadsT at hD
        rw [dTls_few (l := bs.drop j) (fun h => by have := HDd.out; rw [h] at this; simp at this; omega) (by have := HDd.out; omega)] at hD
        exact ⟨.inr (.inl ⟨by rw [hD]; rfl, rfl⟩), (by repeat (first | with_reducible assumption | with_reducible refine Below.drew ?_ | with_reducible refine below_drewN' ?_ _ | with_reducible refine Below.alloc ?_ ?_ _ | with_reducible refine Below.setCell ?_ ?_ _ | with_reducible exact Nat.le_refl _ | omega | focus (simp; done) | focus (simp; omega)))⟩
      · have hl2 : ¬ (l : Int) < 5 := by omega
        have he5 : (5 : Int) ≤ (e : Int) := by have := HE.out; have := HJ.out; omega
        have he3 : (3 : Int) ≤ (e : Int) := by omega
        have he1 : (1 : Int) ≤ (e : Int) := by omega
        have hl53 : (3 : Int) ≤ (l : Int) := by omega
        have hen3 : ¬ e = 3 := by omega
        have hen1 : ¬ e = 1 := by omega
        obtain ⟨y0, y1, y2, y3, y4, rest2, hrest⟩ := five (l := bs.drop j) (by omega)
        have hrow := HR.out.drop j
        rw [← List.map_drop, hrest, ← HOO.out] at hrow
        have hbb : ∀ z ∈ [y0, y1, y2, y3, y4], 0 ≤ z ∧ z ≤ 255 := fun z hz => HBB.out z (List.mem_of_mem_drop (i := j) (by rw [hrest]; exact List.mem_append_left rest2 hz))
        obtain ⟨-, hcell2⟩ := rowCells hrow (by simp)
        have e0' := HKG.out.cell (b := g) ⟨hg, hgR⟩ (hcell2 0 (.int .u8 y0) (by simp))
        have e1' := HKG.out.cell (b := g) ⟨hg, hgR⟩ (hcell2 1 (.int .u8 y1) (by simp))
        have e2' := HKG.out.cell (b := g) ⟨hg, hgR⟩ (hcell2 2 (.int .u8 y2) (by simp))
        have e3' := HKG.out.cell (b := g) ⟨hg, hgR⟩ (hcell2 3 (.int .u8 y3) (by simp))
        have e4' := HKG.out.cell (b := g) ⟨hg, hgR⟩ (hcell2 4 (.int .u8 y4) (by simp))
        rw [Nat.add_zero] at e0'
        have HCELL5 := Lib.hid (show ∀ i x, (rest2.map (Value.int .u8))[i]? = some x → w.cell? ⟨g, O + 5 + i, none⟩ = some x from fun i x hx => by
          have := hcell2 (5 + i) x (by rw [show 5 + i = i + 1 + 1 + 1 + 1 + 1 by omega]; simpa using hx)
          rwa [← Nat.add_assoc] at this)
        have b0 := hbb y0 (by simp)
        have b1 := hbb y1 (by simp)
        have b2 := hbb y2 (by simp)
        have b3 := hbb y3 (by simp)
        have b4 := hbb y4 (by simp)
        obtain ⟨N, hNN⟩ : ∃ N : Nat, y3 * 256 + y4 = (N : Int) := ⟨(y3 * 256 + y4).toNat, by omega⟩
        have hlr : l = rest2.length + 5 := by rw [hrest] at hdl; simp at hdl; omega
        have HROW := Lib.hid hrow
        have HREST := Lib.hid hrest
        have HLR := Lib.hid hlr
        clear hrow hcell2 hbb hdl hrest hlr
        by_cases hk1 : y0 < 20
        · go_wp2_with (go_at_call 12; refine none_c.mono ?_; rintro e w' ⟨rfl, rfl⟩)
          refine bodyPost_ret (v := .tuple #[zlay, .bool false, .bool true]) (by simp only [results, Tryz.results21]; go_simp) rfl ?_
          have h0 : Below w.heap.size w wr := HK.out.2.trans (HBW.out.mono (by omega))
          have hD := HRD.out
          unfold ReadsT at hD
          rw [HREST.out, dTls_kind (.inl hk1)] at hD
          exact ⟨.inr (.inl ⟨by rw [hD]; rfl, rfl⟩), (by repeat (first | with_reducible assumption | with_reducible refine Below.drew ?_ | with_reducible refine below_drewN' ?_ _ | with_reducible refine Below.alloc ?_ ?_ _ | with_reducible refine Below.setCell ?_ ?_ _ | with_reducible exact Nat.le_refl _ | omega | focus (simp; done) | focus (simp; omega)))⟩
        · by_cases hk2 : 23 < y0
          · go_wp2_with (go_at_call 12; refine none_c.mono ?_; rintro e w' ⟨rfl, rfl⟩)
            refine bodyPost_ret (v := .tuple #[zlay, .bool false, .bool true]) (by simp only [results, Tryz.results21]; go_simp) rfl ?_
            have h0 : Below w.heap.size w wr := HK.out.2.trans (HBW.out.mono (by omega))
            have hD := HRD.out
            unfold ReadsT at hD
            rw [HREST.out, dTls_kind (.inr hk2)] at hD
            exact ⟨.inr (.inl ⟨by rw [hD]; rfl, rfl⟩), (by repeat (first | with_reducible assumption | with_reducible refine Below.drew ?_ | with_reducible refine below_drewN' ?_ _ | with_reducible refine Below.alloc ?_ ?_ _ | with_reducible refine Below.setCell ?_ ?_ _ | with_reducible exact Nat.le_refl _ | omega | focus (simp; done) | focus (simp; omega)))⟩
          · by_cases hfit : N ≤ rest2.length
            · have hft : ¬ (l : Int) < 5 + (N : Int) := by have := HLR.out; omega
              have hft2 : 5 + (N : Int) ≤ (e : Int) := by have := HE.out; have := HJ.out; have := HLR.out; omega
              obtain ⟨A5, hA5⟩ : ∃ A, (if e = 5 then some (⟨g, O, none⟩ : Addr) else some ⟨g, O + 5, none⟩) = A := ⟨_, rfl⟩
              obtain ⟨AE, hAE⟩ : ∃ A, (if e = 5 + N then some (⟨g, O, none⟩ : Addr) else some ⟨g, O + (5 + N), none⟩) = A := ⟨_, rfl⟩
              have hS : SB w (fun b => b ≠ R) (.slice A5 N (e - 5)) (rest2.take N) := by
                have := SB.from (lo := 5) (hi := 5 + N) (A := A5) HROW.out (by omega) (by simp; omega) (by have := HE.out; have := HJ.out; have := HLR.out; simp; omega) (by have := HE.out; omega) hA5
                rw [show 5 + N - 5 = N by omega] at this
                simpa using this
              have HS := Lib.hid hS
              clear hS
              go_upto_region 9 with (go_at_call 14; refine (number2_c y3 y4 b3 b4 (by go_simp) (by go_simp)).mono ?_; rintro e w' ⟨rfl, rfl⟩)
              go_cut [7, 8] (fun s7 s wx => s7 = .slice A5 N (e - 5) ∧ ∃ P NB, s = .pointer (some ⟨P, 0, none⟩) ∧ (wr.heap.size ≤ P ∧ wr.heap.size ≤ NB ∧ P ≠ NB ∧ P < wx.heap.size ∧ NB < wx.heap.size) ∧ wx.heap[NB]? = some (.cells #[.int .u64 0, .int .u64 y0, .int .u64 (y1 * 256 + y2), .int .u64 (N : Int)] 39 (0, 0)) ∧
                (wx.cell? ⟨P, 0, none⟩ = some (.slice (some ⟨NB, 0, none⟩) 4 4) ∧ wx.cell? ⟨P, 1, none⟩ = some (.slice none 0 0)) ∧ (∀ j, wx.frozen? ⟨P, j, none⟩ = false) ∧ Below wr.heap.size wr wx)
              case first =>
                refine wp_region_same [12] (.q 0 (.q 1 (.q 2 (.q 3 (.q 4 (.q 5 (.q 7 (.q 8 (.l 6 (.l 9 (.q 10 (.l 11 (.l 12 .done .stop) .stop)) (.l 11 (.l 9 (.q 10 (.l 12 .done .stop)) .stop) .stop)) (.l 11 (.l 6 (.l 9 (.q 10 (.l 12 .done .stop)) .stop) .stop) .stop)))))))))) (by kernel_rfl) (by kernel_rfl) (fun _ _ d _ _ h => by cases d <;> exact h) (by simp only [Ord.fill, nthOp]; rfl) ?_; intro hSm
                repeat
                  first | refine lexO_pass rfl ?_ | (refine lexO_take2 ?_ rfl (by kernel_rfl) (by with_reducible assumption) (fun w' hS K Q' hK => ?_) ?_; rotate_left; focus (have hS2 := hS.2; clear hS; go_wp2_with fail; exact hK))
                refine lexO_do rfl (fun K hK => ?_) (lexO_do rfl (fun K hK => ?_) lexO_stop)
                · go_wp2_with (go_at_call 14; refine (number2_c y1 y2 b1 b2 (by go_simp) (by go_simp)).mono ?_; rintro e w' ⟨rfl, rfl⟩)
                  refine step_and (by repeat (first | with_reducible assumption | with_reducible exact SameAt.refl _ | with_reducible refine SameAt.drew ?_ | with_reducible refine SameAt.drewN ?_ _ | with_reducible refine SameAt.alloc ?_ _ | (refine SameAt.below ?_ (by with_reducible assumption)))) (fun _ => ?_)
                  repeat
                    first | refine lexO_pass rfl ?_ | (refine lexO_take2 ?_ rfl (by kernel_rfl) (by with_reducible assumption) (fun w' hS K Q' hK => ?_) ?_; rotate_left; focus (have hS2 := hS.2; clear hS; go_wp2_with fail; exact hK))
                  refine lexO_do rfl (fun K hK => ?_) (lexO_do rfl (fun K hK => ?_) lexO_stop)
                  · go_wp2_with fail
                    refine step_and (by repeat (first | with_reducible assumption | with_reducible exact SameAt.refl _ | with_reducible refine SameAt.drew ?_ | with_reducible refine SameAt.drewN ?_ _ | with_reducible refine SameAt.alloc ?_ _ | (refine SameAt.below ?_ (by with_reducible assumption)))) (fun _ => ?_)
                    repeat
                      first | refine lexO_pass rfl ?_ | (refine lexO_take2 ?_ rfl (by kernel_rfl) (by with_reducible assumption) (fun w' hS K Q' hK => ?_) ?_; rotate_left; focus (have hS2 := hS.2; clear hS; go_wp2_with fail; exact hK))
                    refine lexO_do rfl (fun K hK => ?_) lexO_stop
                    go_wp2_with fail
                    refine step_and (by repeat (first | with_reducible assumption | with_reducible exact SameAt.refl _ | with_reducible refine SameAt.drew ?_ | with_reducible refine SameAt.drewN ?_ _ | with_reducible refine SameAt.alloc ?_ _ | (refine SameAt.below ?_ (by with_reducible assumption)))) (fun _ => ?_)
                    repeat
                      first | refine lexO_pass rfl ?_ | (refine lexO_take2 ?_ rfl (by kernel_rfl) (by with_reducible assumption) (fun w' hS K Q' hK => ?_) ?_; rotate_left; focus (have hS2 := hS.2; clear hS; go_wp2_with fail; exact hK))
                    refine lexO_do rfl (fun K hK => ?_) lexO_stop
                    go_wp2_with fail
                    first | refine step_last (by decide) (lexO_done ?_) | refine lexO_done ?_
                    go_wp2_with fail
                    go_meet
                    exact ⟨by first | rfl | (congr 1; omega), wr.heap.size + 1, wr.heap.size, rfl, ⟨by first | omega | (simp; done) | (simp; omega), by first | omega | (simp; done) | (simp; omega), by first | omega | (simp; done) | (simp; omega), by first | omega | (simp; done) | (simp; omega), by first | omega | (simp; done) | (simp; omega)⟩, (by (try simp only [heap_drew]); repeat (first | (with_reducible refine heap_last ?_; focus (simp; done)) | with_reducible refine heap_past ?_ | (with_reducible refine heap_set ?_ ?_; focus (first | omega | (simp; done) | (simp; omega))) | with_reducible assumption)), ⟨by go_simp, by go_simp⟩, fun j => by go_simp, by have h0 := Below.refl wr.heap.size wr; exact (by repeat (first | with_reducible assumption | with_reducible refine Below.drew ?_ | with_reducible refine below_drewN' ?_ _ | with_reducible refine Below.alloc ?_ ?_ _ | with_reducible refine Below.setCell ?_ ?_ _ | with_reducible exact Nat.le_refl _ | omega | focus (simp; done) | focus (simp; omega)))⟩
                  · go_wp2_with fail
                    refine step_and (by repeat (first | with_reducible assumption | with_reducible exact SameAt.refl _ | with_reducible refine SameAt.drew ?_ | with_reducible refine SameAt.drewN ?_ _ | with_reducible refine SameAt.alloc ?_ _ | (refine SameAt.below ?_ (by with_reducible assumption)))) (fun _ => ?_)
                    repeat
                      first | refine lexO_pass rfl ?_ | (refine lexO_take2 ?_ rfl (by kernel_rfl) (by with_reducible assumption) (fun w' hS K Q' hK => ?_) ?_; rotate_left; focus (have hS2 := hS.2; clear hS; go_wp2_with fail; exact hK))
                    refine lexO_do rfl (fun K hK => ?_) lexO_stop
                    go_wp2_with fail
                    refine step_and (by repeat (first | with_reducible assumption | with_reducible exact SameAt.refl _ | with_reducible refine SameAt.drew ?_ | with_reducible refine SameAt.drewN ?_ _ | with_reducible refine SameAt.alloc ?_ _ | (refine SameAt.below ?_ (by with_reducible assumption)))) (fun _ => ?_)
                    repeat
                      first | refine lexO_pass rfl ?_ | (refine lexO_take2 ?_ rfl (by kernel_rfl) (by with_reducible assumption) (fun w' hS K Q' hK => ?_) ?_; rotate_left; focus (have hS2 := hS.2; clear hS; go_wp2_with fail; exact hK))
                    refine lexO_do rfl (fun K hK => ?_) lexO_stop
                    go_wp2_with fail
                    first | refine step_last (by decide) (lexO_done ?_) | refine lexO_done ?_
                    go_wp2_with fail
                    go_meet
                    exact ⟨by first | rfl | (congr 1; omega), wr.heap.size, wr.heap.size + 1, rfl, ⟨by first | omega | (simp; done) | (simp; omega), by first | omega | (simp; done) | (simp; omega), by first | omega | (simp; done) | (simp; omega), by first | omega | (simp; done) | (simp; omega), by first | omega | (simp; done) | (simp; omega)⟩, (by (try simp only [heap_drew]); repeat (first | (with_reducible refine heap_last ?_; focus (simp; done)) | with_reducible refine heap_past ?_ | (with_reducible refine heap_set ?_ ?_; focus (first | omega | (simp; done) | (simp; omega))) | with_reducible assumption)), ⟨by go_simp, by go_simp⟩, fun j => by go_simp, by have h0 := Below.refl wr.heap.size wr; exact (by repeat (first | with_reducible assumption | with_reducible refine Below.drew ?_ | with_reducible refine below_drewN' ?_ _ | with_reducible refine Below.alloc ?_ ?_ _ | with_reducible refine Below.setCell ?_ ?_ _ | with_reducible exact Nat.le_refl _ | omega | focus (simp; done) | focus (simp; omega)))⟩
                · go_wp2_with fail
                  refine step_and (by repeat (first | with_reducible assumption | with_reducible exact SameAt.refl _ | with_reducible refine SameAt.drew ?_ | with_reducible refine SameAt.drewN ?_ _ | with_reducible refine SameAt.alloc ?_ _ | (refine SameAt.below ?_ (by with_reducible assumption)))) (fun _ => ?_)
                  repeat
                    first | refine lexO_pass rfl ?_ | (refine lexO_take2 ?_ rfl (by kernel_rfl) (by with_reducible assumption) (fun w' hS K Q' hK => ?_) ?_; rotate_left; focus (have hS2 := hS.2; clear hS; go_wp2_with fail; exact hK))
                  refine lexO_do rfl (fun K hK => ?_) lexO_stop
                  go_wp2_with (go_at_call 14; refine (number2_c y1 y2 b1 b2 (by go_simp) (by go_simp)).mono ?_; rintro e w' ⟨rfl, rfl⟩)
                  refine step_and (by repeat (first | with_reducible assumption | with_reducible exact SameAt.refl _ | with_reducible refine SameAt.drew ?_ | with_reducible refine SameAt.drewN ?_ _ | with_reducible refine SameAt.alloc ?_ _ | (refine SameAt.below ?_ (by with_reducible assumption)))) (fun _ => ?_)
                  repeat
                    first | refine lexO_pass rfl ?_ | (refine lexO_take2 ?_ rfl (by kernel_rfl) (by with_reducible assumption) (fun w' hS K Q' hK => ?_) ?_; rotate_left; focus (have hS2 := hS.2; clear hS; go_wp2_with fail; exact hK))
                  refine lexO_do rfl (fun K hK => ?_) lexO_stop
                  go_wp2_with fail
                  refine step_and (by repeat (first | with_reducible assumption | with_reducible exact SameAt.refl _ | with_reducible refine SameAt.drew ?_ | with_reducible refine SameAt.drewN ?_ _ | with_reducible refine SameAt.alloc ?_ _ | (refine SameAt.below ?_ (by with_reducible assumption)))) (fun _ => ?_)
                  repeat
                    first | refine lexO_pass rfl ?_ | (refine lexO_take2 ?_ rfl (by kernel_rfl) (by with_reducible assumption) (fun w' hS K Q' hK => ?_) ?_; rotate_left; focus (have hS2 := hS.2; clear hS; go_wp2_with fail; exact hK))
                  refine lexO_do rfl (fun K hK => ?_) lexO_stop
                  go_wp2_with fail
                  first | refine step_last (by decide) (lexO_done ?_) | refine lexO_done ?_
                  go_wp2_with fail
                  go_meet
                  exact ⟨by first | rfl | (congr 1; omega), wr.heap.size, wr.heap.size + 1, rfl, ⟨by first | omega | (simp; done) | (simp; omega), by first | omega | (simp; done) | (simp; omega), by first | omega | (simp; done) | (simp; omega), by first | omega | (simp; done) | (simp; omega), by first | omega | (simp; done) | (simp; omega)⟩, (by (try simp only [heap_drew]); repeat (first | (with_reducible refine heap_last ?_; focus (simp; done)) | with_reducible refine heap_past ?_ | (with_reducible refine heap_set ?_ ?_; focus (first | omega | (simp; done) | (simp; omega))) | with_reducible assumption)), ⟨by go_simp, by go_simp⟩, fun j => by go_simp, by have h0 := Below.refl wr.heap.size wr; exact (by repeat (first | with_reducible assumption | with_reducible refine Below.drew ?_ | with_reducible refine below_drewN' ?_ _ | with_reducible refine Below.alloc ?_ ?_ _ | with_reducible refine Below.setCell ?_ ?_ _ | with_reducible exact Nat.le_refl _ | omega | focus (simp; done) | focus (simp; omega)))⟩
              case rest =>
                obtain ⟨rfl, P, NB, rfl, ⟨lP, lNB, nPN, lPc, lNc⟩, hNB, ⟨z2, z1c⟩, pf, hbc⟩ := hcut
                have HNB := Lib.hid hNB
                have HBC := Lib.hid hbc
                have pf0 := pf 0
                have pf1 := pf 1
                have n0 : wc.cell? ⟨NB, 0, none⟩ = some (.int .u64 0) := by simp [World.cell?, hNB]
                have n1 : wc.cell? ⟨NB, 1, none⟩ = some (.int .u64 y0) := by simp [World.cell?, hNB]
                have n2 : wc.cell? ⟨NB, 2, none⟩ = some (.int .u64 (y1 * 256 + y2)) := by simp [World.cell?, hNB]
                have n3 : wc.cell? ⟨NB, 3, none⟩ = some (.int .u64 (N : Int)) := by simp [World.cell?, hNB]
                have nf0 : wc.frozen? ⟨NB, 0, none⟩ = false := by simp [World.frozen?, hNB]
                have nNP : ¬ NB = P := fun e => nPN e.symm
                have nPN' : ¬ P = NB := nPN
                have g0c := (hbc.cell (p := ⟨g, O, none⟩) lgr).trans e0'
                have lgc : g < wc.heap.size := by omega
                have ngP : ¬ g = P := by omega
                have ngN : ¬ g = NB := by omega
                have lwc := hbc.size
                have vc0 := (hbc.cell (p := ⟨w.heap.size, 0, none⟩) lwr).trans v0
                have vc1 := (hbc.cell (p := ⟨w.heap.size, 1, none⟩) lwr).trans v1
                have vc2 := (hbc.cell (p := ⟨w.heap.size, 2, none⟩) lwr).trans v2
                have vc3 := (hbc.cell (p := ⟨w.heap.size, 3, none⟩) lwr).trans v3
                have fc0 := (hbc.frozen (p := ⟨w.heap.size, 0, none⟩) lwr).trans f0
                have fc1 := (hbc.frozen (p := ⟨w.heap.size, 1, none⟩) lwr).trans f1
                have fc2 := (hbc.frozen (p := ⟨w.heap.size, 2, none⟩) lwr).trans f2
                have fc3 := (hbc.frozen (p := ⟨w.heap.size, 3, none⟩) lwr).trans f3
                have lwrc : w.heap.size < wc.heap.size := by omega
                clear hNB pf hbc e0' e1' e2' e3' e4' v0 v1 v2 v3 f0 f1 f2 f3
                have hkind : y0 = 20 ∨ y0 = 21 ∨ y0 = 22 ∨ y0 = 23 := by omega
                rcases hkind with hkk | hkk | hkk | hkk
                · subst hkk
                  by_cases hN1 : N = 1
                  · subst hN1
                    obtain ⟨z0', r3, hr3⟩ : ∃ z r, rest2 = z :: r := by
                      match rest2, hfit with
                      | z :: r, _ => exact ⟨z, r, rfl⟩
                    have e5' := HKG.out.cell (b := g) ⟨hg, hgR⟩ (HCELL5.out 0 (.int .u8 z0') (by rw [hr3]; rfl))
                    rw [Nat.add_zero] at e5'
                    have e5c := (HBC.out.cell (p := ⟨g, O + 5, none⟩) lgr).trans e5'
                    have he5 : ¬ e = 5 := by have := HE.out; have := HJ.out; have := HLR.out; omega
                    have hA5' : A5 = some ⟨g, O + 5, none⟩ := by rw [← hA5, if_neg he5]
                    subst hA5'
                    by_cases hz1 : z0' = 1
                    · subst hz1
                      clear vc0 vc1 vc2 vc3 fc0 fc1 fc2 fc3
                      have hown := owns_block (n := 4) (base := wr.heap.size) HNB.out (by omega) rfl (by omega)
                      have HOWN := Lib.hid hown
                      clear hown
                      have HYC := Lib.hid (show ∀ i x, [Value.int .u64 1][i]? = some x → (wc.alloc (.cells #[.int .u64 1] 39)).cell? ⟨wc.heap.size, i, none⟩ = some x from fun i x hx => by
                        rcases i with _ | i
                        · simp at hx; subst hx; go_simp
                        · simp at hx)
                      go_upto_region 15 with (at_builtin; refine wpList_append_nums rfl (.tmp 81) (.tmp 82) rfl (v := .slice (some ⟨NB, 0, none⟩) 4 4) (n := 4) (base := wr.heap.size) rfl (ownsRow_keeps HOWN.out (show Keeps (fun _ => True) wc _ from (by repeat (first | with_reducible assumption | with_reducible exact Keeps.refl _ _ | with_reducible refine Keeps.drew ?_ | with_reducible refine Keeps.drewN ?_ _ | with_reducible refine Keeps.alloc ?_ _ | with_reducible refine Keeps.setCell ?_ ?_ _ | omega | focus (simp; done) | focus (simp; omega)))) (fun _ _ => trivial)) rfl (m := 1) (ys := [.int .u64 1]) rfl HYC.out (by intro u hu; simp at hu; subst hu; rfl) (by omega) (by first | omega | (simp; omega)) ?_)
                      intro p' c3 w5 hr5 hg5 ha5
                      have hk5 : Keeps (fun b => b ≠ NB) (wc.alloc (.cells #[.int .u64 1] 39)) w5 := Keeps.of_grown hg5.out (fun b hb he => hb (Option.some.inj he))
                      have z2' : w5.cell? ⟨P, 0, none⟩ = some (.slice (some ⟨NB, 0, none⟩) 4 4) := hk5.cell nPN (by go_simp)
                      have z3' : w5.cell? ⟨P, 1, none⟩ = some (.slice none 0 0) := hk5.cell nPN (by go_simp)
                      have pf5 : w5.frozen? ⟨P, 0, none⟩ = false := hk5.frozen nPN (by first | omega | (simp; omega)) (by go_simp)
                      have lP6 : P < w5.heap.size := World.block_lt_of_cell? _ _ z2'
                      have HR5 := Lib.hid (IsSl.owned hr5.out)
                      have HOB := Lib.hid (show ∀ k, (Value.slice p' (4 + 1) c3).ownBlock = some k → k ≠ P from fun k hk => by
                        rcases ha5.out with h | h
                        · rw [h] at hk
                          have : NB = k := Option.some.inj hk
                          omega
                        · rw [h] at hk
                          simp at hk
                          omega)
                      have HB9 := Lib.hid (show Below wr.heap.size wr w5 from ((HBC.out.alloc (by omega) _).grown hg5.out (by simp; omega) (fun k hk => by have : NB = k := Option.some.inj hk; omega)))
                      clear hr5 hg5 ha5 hk5
                      go_upto_region 15 with fail
                      refine wp_gen (fun W5 => Below wr.heap.size wr W5 ∧ W5.cell? ⟨P, 0, none⟩ = some (.slice p' (4 + 1) c3) ∧ W5.cell? ⟨P, 1, none⟩ = some (.slice none 0 0) ∧ SN W5 (fun b => wr.heap.size ≤ b) (.slice p' (4 + 1) c3) [0, 20, y1 * 256 + y2, 1, 1] ∧ SB W5 (fun b => wr.heap.size ≤ b ∨ (b < w.heap.size ∧ b ≠ R)) (.slice none 0 0) ([] : List Int)) ?G (fun W5 hW5 => ?_)
                      case G =>
                        refine ⟨by have h0 := HB9.out; exact (by repeat (first | with_reducible assumption | with_reducible refine Below.drew ?_ | with_reducible refine below_drewN' ?_ _ | with_reducible refine Below.alloc ?_ ?_ _ | with_reducible refine Below.setCell ?_ ?_ _ | with_reducible exact Nat.le_refl _ | omega | focus (simp; done) | focus (simp; omega))), by go_simp, by go_simp, ?_, SB.nil _ _⟩
                        exact (IsSl.imp (ok := fun b => wr.heap.size ≤ b ∧ b ≠ P) (IsSl.imp HR5.out (fun b _ hb => ⟨hb.1, HOB.out b hb.2⟩)) (fun b _ hb => hb)).keeps (by repeat (first | with_reducible assumption | with_reducible exact Keeps.refl _ _ | with_reducible refine Keeps.drew ?_ | with_reducible refine Keeps.drewN ?_ _ | with_reducible refine Keeps.alloc ?_ _ | with_reducible refine Keeps.setCell ?_ ?_ _ | omega | focus (simp; done) | focus (simp; omega))) |>.imp (fun b _ hb => hb.1)
                      obtain ⟨hB5, z0, z1, hsn, hsb⟩ := hW5
                      have HF5 := Lib.hid (HF.out.below hB5)
                      have HSN := Lib.hid hsn
                      have HSB := Lib.hid hsb
                      have HB5 := Lib.hid hB5
                      have yi : W5.cell? ⟨w.heap.size + 1, 0, none⟩ = some (v 0) := by simpa using HF5.out.cells 0 (by omega)
                      have yf := HF5.out.froz 0
                      have l5 := hB5.size
                      have lP5 : P < W5.heap.size := World.block_lt_of_cell? _ _ z0
                      have lY5 : w.heap.size + 1 < W5.heap.size := World.block_lt_of_cell? _ _ yi
                      have hX := (HF5.out.below (show Below W5.heap.size W5 (W5.alloc (.cells #[.slice p' (4 + 1) c3, .slice none 0 0] 44)) from (Below.refl _ _).alloc (Nat.le_refl _) _))
                      have HX := Lib.hid hX
                      have HRX := Lib.hid (show Rows eP (W5.alloc (.cells #[.slice p' (4 + 1) c3, .slice none 0 0] 44)) W.heap.size (okF (w.heap.size + 1) w.heap.size R v (W5.heap.size + 1)) 44 (v 0) (tOf 0 recs) from (hX.row (i := 0) (by omega)).imp (Nat.le_refl _) (fun b _ hb => ⟨hb.1, by have := hb.2; rw [World.size_alloc] at this; exact this⟩))
                      clear hB5 hsn hsb hX z2' z3' pf5 lP6
                      have HCL := Lib.hid (show ∀ j u, [.slice p' (4 + 1) c3, .slice none 0 0][j]? = some u → (W5.alloc (.cells #[.slice p' (4 + 1) c3, .slice none 0 0] 44)).cell? ⟨W5.heap.size, j, none⟩ = some u from fun j u hu => by
                        rcases j with _ | _ | j
                        · simp at hu; subst hu; go_simp
                        · simp at hu; subst hu; go_simp
                        · simp at hu)
                      have HREP := Lib.hid (show eP.R (W5.alloc (.cells #[.slice p' (4 + 1) c3, .slice none 0 0] 44)) (fun b => okF (w.heap.size + 1) w.heap.size R v (W5.heap.size + 1) b ∧ some b ≠ (v 0).ownBlock) [.slice p' (4 + 1) c3, .slice none 0 0] ([0, 20, y1 * 256 + y2, 1, 1], ([] : List Int)) from by
                        refine ⟨_, _, rfl, (HSN.out.keeps (by repeat (first | with_reducible assumption | with_reducible exact Keeps.refl _ _ | with_reducible refine Keeps.drew ?_ | with_reducible refine Keeps.drewN ?_ _ | with_reducible refine Keeps.alloc ?_ _ | with_reducible refine Keeps.setCell ?_ ?_ _ | omega | focus (simp; done) | focus (simp; omega)))).imp (fun b hb ho => ?_), (HSB.out.keeps (by repeat (first | with_reducible assumption | with_reducible exact Keeps.refl _ _ | with_reducible refine Keeps.drew ?_ | with_reducible refine Keeps.drewN ?_ _ | with_reducible refine Keeps.alloc ?_ _ | with_reducible refine Keeps.setCell ?_ ?_ _ | omega | focus (simp; done) | focus (simp; omega)))).imp (fun b hb ho => ?_)⟩
                        · exact ⟨⟨⟨⟨by omega, by omega, by omega⟩, fun j hj e => by have := (HF.out.own hj e).2; omega⟩, by rw [World.size_alloc] at hb; exact hb⟩, fun e => by have := (HF.out.own (i := 0) (by omega) e.symm).2; omega⟩
                        · rcases ho with ho | ho
                          · exact ⟨⟨⟨⟨by omega, by omega, by omega⟩, fun j hj e => by have := (HF.out.own hj e).2; omega⟩, by rw [World.size_alloc] at hb; exact hb⟩, fun e => by have := (HF.out.own (i := 0) (by omega) e.symm).2; omega⟩
                          · exact ⟨⟨⟨⟨by omega, by omega, ho.2⟩, fun j hj e => by have := (HF.out.own hj e).1; omega⟩, by rw [World.size_alloc] at hb; exact hb⟩, fun e => by have := (HF.out.own (i := 0) (by omega) e.symm).1; omega⟩)
                      have HLEN := Lib.hid (show (tOf 0 recs).length ≤ 2147483648 from by have := HRL.out; have := HJ.out; have := tOf_le 0 recs; have := hLIM; omega)
                      go_wp2_with (at_builtin; refine wpList_append_all (E := eP) rfl (.tmp 86) (.tmp 88) 27 44 _ 48 rfl Tryz.underlying27 infoPart rfl (by decide) (by decide) (v := v 0) rfl HRX.out rfl (cs := [.slice p' (4 + 1) c3, .slice none 0 0]) (y := ([0, 20, y1 * 256 + y2, 1, 1], ([] : List Int))) HCL.out HREP.out HLEN.out (by first | omega | (simp; omega)) ?_)
                      intro q' c2 w6 hr6 hg6 ha6
                      have hk6 := grown_keeps (N := W.heap.size) hg6.out (fun k hk => (HF.out.own (i := 0) (by omega) hk).1)
                      have hY6 : w6.cell? ⟨w.heap.size + 1, 0, none⟩ = some (v 0) := hk6.cell lYW (by go_simp)
                      have hYf6 : w6.frozen? ⟨w.heap.size + 1, 0, none⟩ = false := hk6.frozen lYW (by first | omega | (simp; omega)) (by go_simp)
                      have lY6 : w.heap.size + 1 < w6.heap.size := World.block_lt_of_cell? _ _ hY6
                      have H6 := Lib.hid (HX.out.step (fun b hb => hb.1) (i := 0) (by omega) (hr6.out.imp (Nat.le_refl _) (fun b _ hb => ⟨hb.1, by rw [World.size_alloc]; exact hb.2⟩)) hg6.out (by have h := ha6.out; rw [World.size_alloc]; exact h))
                      have HB6 := Lib.hid (show Below (w.heap.size + 1) W w6 from (((HBW.out.trans (HB5.out.mono (by omega))).alloc (by omega) _).grown hg6.out (by simp; omega) (fun k hk => by have := (HF.out.own (i := 0) (by omega) hk).1; omega)))
                      clear hr6 hg6 ha6 hk6
                      go_wp2_with fail
                      go_roundw
                      case rel => exact ⟨j + (5 + 1), AE, l - (5 + 1), e - (5 + 1), _, recs ++ [(0, ([0, 20, y1 * 256 + y2, 1, 1], ([] : List Int)))], by first | rfl | rw [hAE], by have := HJ.out; have := HLR.out; omega, by have := HE.out; omega, fun h => by rw [← hAE, if_neg (by have := HE.out; have := HJ.out; have := HLR.out; omega), HOO.out]; (congr 2 <;> omega), by have := HRL.out; simp; omega, by have h := H6.out; rw [Nat.zero_add] at h; rw [tOf_upd]; exact h, Lib.hid (HB6.out.setCell (Nat.le_refl _) _), ReadsT.more HRD.out (by rw [HREST.out, dTls_more hNN (by omega) hfit (by rw [hr3]; rfl), show j + (5 + 1) = j + 5 + 1 by omega, ← List.drop_drop, ← List.drop_drop, HREST.out]; rfl)⟩
                      case measure => simp; have := HLR.out; omega
                    · have hz2 : (z0' == 1) = false := by simp [hz1]
                      have hz3 : (z0' != 1) = true := by simp [hz1]
                      go_wp2_with (go_at_call 20; refine open_c.mono ?_; rintro e w' ⟨rfl, rfl⟩)
                      refine bodyPost_ret (v := .tuple #[zlay, .bool false, .bool false]) (by simp only [results, Tryz.results21]; go_simp) rfl ?_
                      have h0 : Below w.heap.size w wc := HK.out.2.trans (HBW.out.mono (by omega)) |>.trans (HBC.out.mono (by omega))
                      have hD := HRD.out
                      unfold ReadsT at hD
                      rw [HREST.out, dTls_open hNN (by omega) hfit (by rw [hr3]; exact tRec20z hz1)] at hD
                      exact ⟨.inl ⟨by rw [hD]; rfl, rfl⟩, (by repeat (first | with_reducible assumption | with_reducible refine Below.drew ?_ | with_reducible refine below_drewN' ?_ _ | with_reducible refine Below.alloc ?_ ?_ _ | with_reducible refine Below.setCell ?_ ?_ _ | with_reducible exact Nat.le_refl _ | omega | focus (simp; done) | focus (simp; omega)))⟩
                  · have hN2 : ((N : Int) == 1) = false := by simp; omega
                    have hN3 : ((N : Int) != 1) = true := by simp; omega
                    go_wp2_with (go_at_call 20; refine open_c.mono ?_; rintro e w' ⟨rfl, rfl⟩)
                    refine bodyPost_ret (v := .tuple #[zlay, .bool false, .bool false]) (by simp only [results, Tryz.results21]; go_simp) rfl ?_
                    have h0 : Below w.heap.size w wc := HK.out.2.trans (HBW.out.mono (by omega)) |>.trans (HBC.out.mono (by omega))
                    have hD := HRD.out
                    unfold ReadsT at hD
                    rw [HREST.out, dTls_open hNN (by omega) hfit (tRec20 (by rw [List.length_take]; omega))] at hD
                    exact ⟨.inl ⟨by rw [hD]; rfl, rfl⟩, (by repeat (first | with_reducible assumption | with_reducible refine Below.drew ?_ | with_reducible refine below_drewN' ?_ _ | with_reducible refine Below.alloc ?_ ?_ _ | with_reducible refine Below.setCell ?_ ?_ _ | with_reducible exact Nat.le_refl _ | omega | focus (simp; done) | focus (simp; omega)))⟩
                · subst hkk
                  by_cases hN1 : N = 2
                  · subst hN1
                    obtain ⟨z0', z1', r3, hr3⟩ : ∃ z z' r, rest2 = z :: z' :: r := by
                      match rest2, hfit with
                      | z :: z' :: r, _ => exact ⟨z, z', r, rfl⟩
                    have e5' := HKG.out.cell (b := g) ⟨hg, hgR⟩ (HCELL5.out 0 (.int .u8 z0') (by rw [hr3]; rfl))
                    have bz0 := HBB.out z0' (List.mem_of_mem_drop (i := j) (by rw [HREST.out, hr3]; simp))
                    have bz1 := HBB.out z1' (List.mem_of_mem_drop (i := j) (by rw [HREST.out, hr3]; simp))
                    have e6' := HKG.out.cell (b := g) ⟨hg, hgR⟩ (HCELL5.out 1 (.int .u8 z1') (by rw [hr3]; rfl))
                    rw [Nat.add_zero] at e5'
                    have e5c := (HBC.out.cell (p := ⟨g, O + 5, none⟩) lgr).trans e5'
                    have e6c := (HBC.out.cell (p := ⟨g, O + 5 + 1, none⟩) lgr).trans e6'
                    have he5 : ¬ e = 5 := by have := HE.out; have := HJ.out; have := HLR.out; omega
                    have hA5' : A5 = some ⟨g, O + 5, none⟩ := by rw [← hA5, if_neg he5]
                    subst hA5'
                    clear vc0 vc1 vc2 vc3 fc0 fc1 fc2 fc3
                    go_upto_region 20 with fail
                    refine wp_gen (fun W4 => Below wr.heap.size wr W4 ∧ (W4.cell? ⟨P, 0, none⟩ = some (.slice (some ⟨NB, 0, none⟩) 4 4) ∧ W4.cell? ⟨P, 1, none⟩ = some (.slice none 0 0)) ∧ W4.frozen? ⟨P, 0, none⟩ = false ∧ W4.heap[NB]? = some (.cells #[.int .u64 3, .int .u64 21, .int .u64 (y1 * 256 + y2), .int .u64 (2 : Nat)] 39 (0, 0)) ∧ (W4.cell? ⟨g, O + 5, none⟩ = some (.int .u8 z0') ∧ W4.cell? ⟨g, O + 5 + 1, none⟩ = some (.int .u8 z1'))) ?H (fun W4 hW4 => ?_)
                    case H => exact ⟨by have h0 := HBC.out; exact (by repeat (first | with_reducible assumption | with_reducible refine Below.drew ?_ | with_reducible refine below_drewN' ?_ _ | with_reducible refine Below.alloc ?_ ?_ _ | with_reducible refine Below.setCell ?_ ?_ _ | with_reducible exact Nat.le_refl _ | omega | focus (simp; done) | focus (simp; omega))), ⟨by go_simp, by go_simp⟩, by go_simp, set_head HNB.out _, ⟨by go_simp, by go_simp⟩⟩
                    obtain ⟨hB4, ⟨z2', z3'⟩, pf4, hNB4, ⟨g5, g6⟩⟩ := hW4
                    have HB4 := Lib.hid hB4
                    have HNB4 := Lib.hid hNB4
                    have l4 := hB4.size
                    have lP4 : P < W4.heap.size := World.block_lt_of_cell? _ _ z2'
                    have lN4 : NB < W4.heap.size := (Array.getElem?_eq_some_iff.1 hNB4).1
                    have lg4 : g < W4.heap.size := by omega
                    have HOWN := Lib.hid (owns_block (n := 4) (base := wr.heap.size) hNB4 (by omega) rfl (by omega))
                    clear hB4 hNB4 z2 z1c n0 n1 n2 n3 e5c e6c pf0 pf1 nf0
                    refine wp_region_on (fun b => b = P ∨ b = g) (fun b hb => by first | omega | (rcases hb with hb | hb <;> omega) | (rcases hb with hb | hb <;> simp <;> omega)) [13] (.q 0 (.q 1 (.q 2 (.q 3 (.q 4 (.q 5 (.q 6 (.q 7 (.q 8 (.q 9 (.l 10 (.l 11 (.q 12 (.l 13 .done .stop)) .stop) .stop))))))))))) (by kernel_rfl) (by kernel_rfl) (fun _ _ d _ _ h => by cases d <;> exact h) (by simp only [Ord.fill, nthOp]; rfl) ?_; intro hSm
                    repeat
                      first | refine lexO_pass rfl ?_ | (refine lexO_take2 ?_ rfl (by kernel_rfl) (by with_reducible assumption) (fun w' hS K Q' hK => ?_) ?_; rotate_left; focus (have hS2 := hS.2; clear hS; go_wp2_with fail; exact hK))
                    refine lexO_do rfl (fun K hK => ?_) lexO_stop
                    go_wp2_with fail
                    have hSA : SameOn (fun b => b = P ∨ b = g) W4 (W4.alloc (.cells #[.int .u64 z0', .int .u64 z1'] 39)).drew := (by repeat (first | with_reducible assumption | (with_reducible refine SameOn.refl (fun b hb => ?_); first | omega | (rcases hb with hb | hb <;> omega) | (rcases hb with hb | hb <;> simp <;> omega)) | with_reducible refine SameOn.drew ?_ | with_reducible refine SameOn.alloc ?_ _ | (refine SameOn.below ?_ (by with_reducible assumption))))
                    first | refine step_and hSA (fun _ => ?_) | refine ⟨hSA, ?_⟩
                    repeat
                      first | refine lexO_pass rfl ?_ | (refine lexO_take2 ?_ rfl (by kernel_rfl) (by with_reducible assumption) (fun w' hS K Q' hK => ?_) ?_; rotate_left; focus (have hS2 := hS.2; clear hS; go_wp2_with fail; exact hK))
                    refine lexO_do rfl (fun K hK => ?_) lexO_stop
                    refine wp_append_nums (.tmp 103) (.tmp 112) rfl (v := .slice (some ⟨NB, 0, none⟩) 4 4) (n := 4) (base := wr.heap.size) rfl (ownsRow_keeps HOWN.out (show Keeps (fun _ => True) W4 _ from (by repeat (first | with_reducible assumption | with_reducible exact Keeps.refl _ _ | with_reducible refine Keeps.drew ?_ | with_reducible refine Keeps.drewN ?_ _ | with_reducible refine Keeps.alloc ?_ _ | with_reducible refine Keeps.setCell ?_ ?_ _ | omega | focus (simp; done) | focus (simp; omega)))) (fun _ _ => trivial)) rfl (m := 2) (ys := [.int .u64 z0', .int .u64 z1']) rfl ?yc (by intro u hu; simp at hu; rcases hu with rfl | rfl <;> rfl) (by omega) ?yb (fun p' c3 w5 hr5 hg5 ha5 => hK _ _ ?_)
                    case yc =>
                      intro i x hx
                      rcases i with _ | _ | i
                      · simp at hx; subst hx; go_simp
                      · simp at hx; subst hx; go_simp
                      · simp at hx
                    case yb => first | omega | (simp; omega)
                    have hk5 := Keeps.of_grown (ok := fun b => b ≠ NB) hg5.out (fun b hb he => hb (Option.some.inj he))
                    refine step_and (SameOn.keeps (by repeat (first | with_reducible assumption | (with_reducible refine SameOn.refl (fun b hb => ?_); first | omega | (rcases hb with hb | hb <;> omega) | (rcases hb with hb | hb <;> simp <;> omega)) | with_reducible refine SameOn.drew ?_ | with_reducible refine SameOn.alloc ?_ _ | (refine SameOn.below ?_ (by with_reducible assumption)))) hk5 (fun b hb => by rcases hb with hb | hb <;> omega)) (fun _ => ?_)
                    have z2'' : w5.cell? ⟨P, 0, none⟩ = some (.slice (some ⟨NB, 0, none⟩) 4 4) := hk5.cell nPN (by go_simp)
                    have z3'' : w5.cell? ⟨P, 1, none⟩ = some (.slice none 0 0) := hk5.cell nPN (by go_simp)
                    have pf5 : w5.frozen? ⟨P, 0, none⟩ = false := hk5.frozen nPN (by first | omega | (simp; omega)) (by go_simp)
                    have lP6 : P < w5.heap.size := World.block_lt_of_cell? _ _ z2''
                    have HR5 := Lib.hid (IsSl.owned hr5.out)
                    have HOB := Lib.hid (show ∀ k, (Value.slice p' (4 + 2) c3).ownBlock = some k → k ≠ P from fun k hk => by
                      rcases ha5.out with h | h
                      · rw [h] at hk
                        have : NB = k := Option.some.inj hk
                        omega
                      · rw [h] at hk
                        simp at hk
                        omega)
                    have HB9 := Lib.hid (show Below wr.heap.size wr w5 from (Below.grown (show Below wr.heap.size wr _ from by have h0 := HB4.out; exact (by repeat (first | with_reducible assumption | with_reducible refine Below.drew ?_ | with_reducible refine below_drewN' ?_ _ | with_reducible refine Below.alloc ?_ ?_ _ | with_reducible refine Below.setCell ?_ ?_ _ | with_reducible exact Nat.le_refl _ | omega | focus (simp; done) | focus (simp; omega)))) hg5.out (by simp; omega) (fun k hk => by have : NB = k := Option.some.inj hk; omega)))
                    clear hr5 hg5 ha5 hk5
                    repeat
                      first | refine lexO_pass rfl ?_ | (refine lexO_take2 ?_ rfl (by kernel_rfl) (by with_reducible assumption) (fun w' hS K Q' hK => ?_) ?_; rotate_left; focus (have hS2 := hS.2; clear hS; go_wp2_with fail; exact hK))
                    refine lexO_do rfl (fun K hK => ?_) lexO_stop
                    go_wp2_with fail
                    first | refine step_last (by decide) (lexO_done ?_) | refine lexO_done ?_
                    go_upto_region 21 with fail
                    clear z2' z3' pf4 g5 g6 lP4 lN4 lg4
                    refine wp_gen (fun W5 => Below wr.heap.size wr W5 ∧ W5.cell? ⟨P, 0, none⟩ = some (.slice p' (4 + 2) c3) ∧ W5.cell? ⟨P, 1, none⟩ = some (.slice none 0 0) ∧ SN W5 (fun b => wr.heap.size ≤ b) (.slice p' (4 + 2) c3) [3, 21, y1 * 256 + y2, 2, z0', z1'] ∧ SB W5 (fun b => wr.heap.size ≤ b ∨ (b < w.heap.size ∧ b ≠ R)) (.slice none 0 0) ([] : List Int)) ?G (fun W5 hW5 => ?_)
                    case G =>
                      refine ⟨by have h0 := HB9.out; exact (by repeat (first | with_reducible assumption | with_reducible refine Below.drew ?_ | with_reducible refine below_drewN' ?_ _ | with_reducible refine Below.alloc ?_ ?_ _ | with_reducible refine Below.setCell ?_ ?_ _ | with_reducible exact Nat.le_refl _ | omega | focus (simp; done) | focus (simp; omega))), by go_simp, by go_simp, ?_, SB.nil _ _⟩
                      exact (IsSl.imp (ok := fun b => wr.heap.size ≤ b ∧ b ≠ P) (IsSl.imp HR5.out (fun b _ hb => ⟨hb.1, HOB.out b hb.2⟩)) (fun b _ hb => hb)).keeps (by repeat (first | with_reducible assumption | with_reducible exact Keeps.refl _ _ | with_reducible refine Keeps.drew ?_ | with_reducible refine Keeps.drewN ?_ _ | with_reducible refine Keeps.alloc ?_ _ | with_reducible refine Keeps.setCell ?_ ?_ _ | omega | focus (simp; done) | focus (simp; omega))) |>.imp (fun b _ hb => hb.1)
                    obtain ⟨hB5, z0, z1, hsn, hsb⟩ := hW5
                    have HF5 := Lib.hid (HF.out.below hB5)
                    have HSN := Lib.hid hsn
                    have HSB := Lib.hid hsb
                    have HB5 := Lib.hid hB5
                    have yi : W5.cell? ⟨w.heap.size + 1, 3, none⟩ = some (v 3) := by simpa using HF5.out.cells 3 (by omega)
                    have yf := HF5.out.froz 3
                    have l5 := hB5.size
                    have lP5 : P < W5.heap.size := World.block_lt_of_cell? _ _ z0
                    have lY5 : w.heap.size + 1 < W5.heap.size := World.block_lt_of_cell? _ _ yi
                    have hX := (HF5.out.below (show Below W5.heap.size W5 (W5.alloc (.cells #[.slice p' (4 + 2) c3, .slice none 0 0] 44)) from (Below.refl _ _).alloc (Nat.le_refl _) _))
                    have HX := Lib.hid hX
                    have HRX := Lib.hid (show Rows eP (W5.alloc (.cells #[.slice p' (4 + 2) c3, .slice none 0 0] 44)) W.heap.size (okF (w.heap.size + 1) w.heap.size R v (W5.heap.size + 1)) 44 (v 3) (tOf 3 recs) from (hX.row (i := 3) (by omega)).imp (Nat.le_refl _) (fun b _ hb => ⟨hb.1, by have := hb.2; rw [World.size_alloc] at this; exact this⟩))
                    clear hB5 hsn hsb hX z2'' z3'' pf5 lP6
                    have HCL := Lib.hid (show ∀ j u, [.slice p' (4 + 2) c3, .slice none 0 0][j]? = some u → (W5.alloc (.cells #[.slice p' (4 + 2) c3, .slice none 0 0] 44)).cell? ⟨W5.heap.size, j, none⟩ = some u from fun j u hu => by
                      rcases j with _ | _ | j
                      · simp at hu; subst hu; go_simp
                      · simp at hu; subst hu; go_simp
                      · simp at hu)
                    have HREP := Lib.hid (show eP.R (W5.alloc (.cells #[.slice p' (4 + 2) c3, .slice none 0 0] 44)) (fun b => okF (w.heap.size + 1) w.heap.size R v (W5.heap.size + 1) b ∧ some b ≠ (v 3).ownBlock) [.slice p' (4 + 2) c3, .slice none 0 0] ([3, 21, y1 * 256 + y2, 2, z0', z1'], ([] : List Int)) from by
                      refine ⟨_, _, rfl, (HSN.out.keeps (by repeat (first | with_reducible assumption | with_reducible exact Keeps.refl _ _ | with_reducible refine Keeps.drew ?_ | with_reducible refine Keeps.drewN ?_ _ | with_reducible refine Keeps.alloc ?_ _ | with_reducible refine Keeps.setCell ?_ ?_ _ | omega | focus (simp; done) | focus (simp; omega)))).imp (fun b hb ho => ?_), (HSB.out.keeps (by repeat (first | with_reducible assumption | with_reducible exact Keeps.refl _ _ | with_reducible refine Keeps.drew ?_ | with_reducible refine Keeps.drewN ?_ _ | with_reducible refine Keeps.alloc ?_ _ | with_reducible refine Keeps.setCell ?_ ?_ _ | omega | focus (simp; done) | focus (simp; omega)))).imp (fun b hb ho => ?_)⟩
                      · exact ⟨⟨⟨⟨by omega, by omega, by omega⟩, fun j hj e => by have := (HF.out.own hj e).2; omega⟩, by rw [World.size_alloc] at hb; exact hb⟩, fun e => by have := (HF.out.own (i := 3) (by omega) e.symm).2; omega⟩
                      · rcases ho with ho | ho
                        · exact ⟨⟨⟨⟨by omega, by omega, by omega⟩, fun j hj e => by have := (HF.out.own hj e).2; omega⟩, by rw [World.size_alloc] at hb; exact hb⟩, fun e => by have := (HF.out.own (i := 3) (by omega) e.symm).2; omega⟩
                        · exact ⟨⟨⟨⟨by omega, by omega, ho.2⟩, fun j hj e => by have := (HF.out.own hj e).1; omega⟩, by rw [World.size_alloc] at hb; exact hb⟩, fun e => by have := (HF.out.own (i := 3) (by omega) e.symm).1; omega⟩)
                    have HLEN := Lib.hid (show (tOf 3 recs).length ≤ 2147483648 from by have := HRL.out; have := HJ.out; have := tOf_le 3 recs; have := hLIM; omega)
                    go_wp2_with (at_builtin; refine wpList_append_all (E := eP) rfl (.tmp 116) (.tmp 118) 27 44 _ 48 rfl Tryz.underlying27 infoPart rfl (by decide) (by decide) (v := v 3) rfl HRX.out rfl (cs := [.slice p' (4 + 2) c3, .slice none 0 0]) (y := ([3, 21, y1 * 256 + y2, 2, z0', z1'], ([] : List Int))) HCL.out HREP.out HLEN.out (by first | omega | (simp; omega)) ?_)
                    intro q' c2 w6 hr6 hg6 ha6
                    have hk6 := grown_keeps (N := W.heap.size) hg6.out (fun k hk => (HF.out.own (i := 3) (by omega) hk).1)
                    have hY6 : w6.cell? ⟨w.heap.size + 1, 3, none⟩ = some (v 3) := hk6.cell lYW (by go_simp)
                    have hYf6 : w6.frozen? ⟨w.heap.size + 1, 3, none⟩ = false := hk6.frozen lYW (by first | omega | (simp; omega)) (by go_simp)
                    have lY6 : w.heap.size + 1 < w6.heap.size := World.block_lt_of_cell? _ _ hY6
                    have H6 := Lib.hid (HX.out.step (fun b hb => hb.1) (i := 3) (by omega) (hr6.out.imp (Nat.le_refl _) (fun b _ hb => ⟨hb.1, by rw [World.size_alloc]; exact hb.2⟩)) hg6.out (by have h := ha6.out; rw [World.size_alloc]; exact h))
                    have HB6 := Lib.hid (show Below (w.heap.size + 1) W w6 from (((HBW.out.trans (HB5.out.mono (by omega))).alloc (by omega) _).grown hg6.out (by simp; omega) (fun k hk => by have := (HF.out.own (i := 3) (by omega) hk).1; omega)))
                    clear hr6 hg6 ha6 hk6
                    go_wp2_with fail
                    go_roundw
                    case rel => exact ⟨j + (5 + 2), AE, l - (5 + 2), e - (5 + 2), _, recs ++ [(3, ([3, 21, y1 * 256 + y2, 2, z0', z1'], ([] : List Int)))], by first | rfl | rw [hAE], by have := HJ.out; have := HLR.out; omega, by have := HE.out; omega, fun h => by rw [← hAE, if_neg (by have := HE.out; have := HJ.out; have := HLR.out; omega), HOO.out]; (congr 2 <;> omega), by have := HRL.out; simp; omega, by have h := H6.out; rw [Nat.zero_add] at h; rw [tOf_upd]; exact h, Lib.hid (HB6.out.setCell (Nat.le_refl _) _), ReadsT.more HRD.out (by rw [HREST.out, dTls_more hNN (by omega) hfit (by rw [hr3]; rfl), show j + (5 + 2) = j + 5 + 2 by omega, ← List.drop_drop, ← List.drop_drop, HREST.out]; rfl)⟩
                    case measure => simp; have := HLR.out; omega
                  · have hN2 : ((N : Int) == 2) = false := by simp; omega
                    have hN3 : ((N : Int) != 2) = true := by simp; omega
                    go_wp2_with (go_at_call 20; refine open_c.mono ?_; rintro e w' ⟨rfl, rfl⟩)
                    refine bodyPost_ret (v := .tuple #[zlay, .bool false, .bool false]) (by simp only [results, Tryz.results21]; go_simp) rfl ?_
                    have h0 : Below w.heap.size w wc := HK.out.2.trans (HBW.out.mono (by omega)) |>.trans (HBC.out.mono (by omega))
                    have hD := HRD.out
                    unfold ReadsT at hD
                    rw [HREST.out, dTls_open hNN (by omega) hfit (tRec21 (by rw [List.length_take]; omega))] at hD
                    exact ⟨.inl ⟨by rw [hD]; rfl, rfl⟩, (by repeat (first | with_reducible assumption | with_reducible refine Below.drew ?_ | with_reducible refine below_drewN' ?_ _ | with_reducible refine Below.alloc ?_ ?_ _ | with_reducible refine Below.setCell ?_ ?_ _ | with_reducible exact Nat.le_refl _ | omega | focus (simp; done) | focus (simp; omega)))⟩
                · subst hkk
                  clear vc0 vc1 vc2 vc3 fc0 fc1 fc2 fc3
                  go_upto_region 24 with fail
                  refine wp_gen (fun W5 => Below wr.heap.size wr W5 ∧ W5.cell? ⟨P, 0, none⟩ = some (.slice (some ⟨NB, 0, none⟩) 4 4) ∧ W5.cell? ⟨P, 1, none⟩ = some (.slice none 0 0) ∧ SN W5 (fun b => wr.heap.size ≤ b) (.slice (some ⟨NB, 0, none⟩) 4 4) [1, 22, y1 * 256 + y2, (N : Int)] ∧ SB W5 (fun b => wr.heap.size ≤ b ∨ (b < w.heap.size ∧ b ≠ R)) (.slice none 0 0) ([] : List Int)) ?G (fun W5 hW5 => ?_)
                  case G =>
                    exact ⟨by have h0 := HBC.out; exact (by repeat (first | with_reducible assumption | with_reducible refine Below.drew ?_ | with_reducible refine below_drewN' ?_ _ | with_reducible refine Below.alloc ?_ ?_ _ | with_reducible refine Below.setCell ?_ ?_ _ | with_reducible exact Nat.le_refl _ | omega | focus (simp; done) | focus (simp; omega))), by go_simp, by go_simp, ⟨_, _, rfl, by simp, by simp, fun h => (by cases h), .inr ⟨NB, 0, rfl, by omega, by first | omega | (simp; omega), fun i x hx => by rcases i with _ | _ | _ | _ | i <;> simp at hx <;> subst hx <;> go_simp⟩⟩, SB.nil _ _⟩
                  obtain ⟨hB5, z0, z1, hsn, hsb⟩ := hW5
                  have HF5 := Lib.hid (HF.out.below hB5)
                  have HSN := Lib.hid hsn
                  have HSB := Lib.hid hsb
                  have HB5 := Lib.hid hB5
                  have yi : W5.cell? ⟨w.heap.size + 1, 1, none⟩ = some (v 1) := by simpa using HF5.out.cells 1 (by omega)
                  have yf := HF5.out.froz 1
                  have l5 := hB5.size
                  have lP5 : P < W5.heap.size := World.block_lt_of_cell? _ _ z0
                  have lY5 : w.heap.size + 1 < W5.heap.size := World.block_lt_of_cell? _ _ yi
                  have hX := (HF5.out.below (show Below W5.heap.size W5 (W5.alloc (.cells #[.slice (some ⟨NB, 0, none⟩) 4 4, .slice none 0 0] 44)) from (Below.refl _ _).alloc (Nat.le_refl _) _))
                  have HX := Lib.hid hX
                  have HRX := Lib.hid (show Rows eP (W5.alloc (.cells #[.slice (some ⟨NB, 0, none⟩) 4 4, .slice none 0 0] 44)) W.heap.size (okF (w.heap.size + 1) w.heap.size R v (W5.heap.size + 1)) 44 (v 1) (tOf 1 recs) from (hX.row (i := 1) (by omega)).imp (Nat.le_refl _) (fun b _ hb => ⟨hb.1, by have := hb.2; rw [World.size_alloc] at this; exact this⟩))
                  clear hB5 hsn hsb hX z2 n0 n1 n2 n3
                  have HCL := Lib.hid (show ∀ j u, [.slice (some ⟨NB, 0, none⟩) 4 4, .slice none 0 0][j]? = some u → (W5.alloc (.cells #[.slice (some ⟨NB, 0, none⟩) 4 4, .slice none 0 0] 44)).cell? ⟨W5.heap.size, j, none⟩ = some u from fun j u hu => by
                    rcases j with _ | _ | j
                    · simp at hu; subst hu; go_simp
                    · simp at hu; subst hu; go_simp
                    · simp at hu)
                  have HREP := Lib.hid (show eP.R (W5.alloc (.cells #[.slice (some ⟨NB, 0, none⟩) 4 4, .slice none 0 0] 44)) (fun b => okF (w.heap.size + 1) w.heap.size R v (W5.heap.size + 1) b ∧ some b ≠ (v 1).ownBlock) [.slice (some ⟨NB, 0, none⟩) 4 4, .slice none 0 0] ([1, 22, y1 * 256 + y2, (N : Int)], ([] : List Int)) from by
                    refine ⟨_, _, rfl, (HSN.out.keeps (by repeat (first | with_reducible assumption | with_reducible exact Keeps.refl _ _ | with_reducible refine Keeps.drew ?_ | with_reducible refine Keeps.drewN ?_ _ | with_reducible refine Keeps.alloc ?_ _ | with_reducible refine Keeps.setCell ?_ ?_ _ | omega | focus (simp; done) | focus (simp; omega)))).imp (fun b hb ho => ?_), (HSB.out.keeps (by repeat (first | with_reducible assumption | with_reducible exact Keeps.refl _ _ | with_reducible refine Keeps.drew ?_ | with_reducible refine Keeps.drewN ?_ _ | with_reducible refine Keeps.alloc ?_ _ | with_reducible refine Keeps.setCell ?_ ?_ _ | omega | focus (simp; done) | focus (simp; omega)))).imp (fun b hb ho => ?_)⟩
                    · exact ⟨⟨⟨⟨by omega, by omega, by omega⟩, fun j hj e => by have := (HF.out.own hj e).2; omega⟩, by rw [World.size_alloc] at hb; exact hb⟩, fun e => by have := (HF.out.own (i := 1) (by omega) e.symm).2; omega⟩
                    · rcases ho with ho | ho
                      · exact ⟨⟨⟨⟨by omega, by omega, by omega⟩, fun j hj e => by have := (HF.out.own hj e).2; omega⟩, by rw [World.size_alloc] at hb; exact hb⟩, fun e => by have := (HF.out.own (i := 1) (by omega) e.symm).2; omega⟩
                      · exact ⟨⟨⟨⟨by omega, by omega, ho.2⟩, fun j hj e => by have := (HF.out.own hj e).1; omega⟩, by rw [World.size_alloc] at hb; exact hb⟩, fun e => by have := (HF.out.own (i := 1) (by omega) e.symm).1; omega⟩)
                  have HLEN := Lib.hid (show (tOf 1 recs).length ≤ 2147483648 from by have := HRL.out; have := HJ.out; have := tOf_le 1 recs; have := hLIM; omega)
                  go_wp2_with (at_builtin; refine wpList_append_all (E := eP) rfl (.tmp 127) (.tmp 129) 27 44 _ 48 rfl Tryz.underlying27 infoPart rfl (by decide) (by decide) (v := v 1) rfl HRX.out rfl (cs := [.slice (some ⟨NB, 0, none⟩) 4 4, .slice none 0 0]) (y := ([1, 22, y1 * 256 + y2, (N : Int)], ([] : List Int))) HCL.out HREP.out HLEN.out (by first | omega | (simp; omega)) ?_)
                  intro q' c2 w6 hr6 hg6 ha6
                  have hk6 := grown_keeps (N := W.heap.size) hg6.out (fun k hk => (HF.out.own (i := 1) (by omega) hk).1)
                  have hY6 : w6.cell? ⟨w.heap.size + 1, 1, none⟩ = some (v 1) := hk6.cell lYW (by go_simp)
                  have hYf6 : w6.frozen? ⟨w.heap.size + 1, 1, none⟩ = false := hk6.frozen lYW (by first | omega | (simp; omega)) (by go_simp)
                  have lY6 : w.heap.size + 1 < w6.heap.size := World.block_lt_of_cell? _ _ hY6
                  have H6 := Lib.hid (HX.out.step (fun b hb => hb.1) (i := 1) (by omega) (hr6.out.imp (Nat.le_refl _) (fun b _ hb => ⟨hb.1, by rw [World.size_alloc]; exact hb.2⟩)) hg6.out (by have h := ha6.out; rw [World.size_alloc]; exact h))
                  have HB6 := Lib.hid (show Below (w.heap.size + 1) W w6 from (((HBW.out.trans (HB5.out.mono (by omega))).alloc (by omega) _).grown hg6.out (by simp; omega) (fun k hk => by have := (HF.out.own (i := 1) (by omega) hk).1; omega)))
                  clear hr6 hg6 ha6 hk6
                  go_wp2_with fail
                  go_roundw
                  case rel => exact ⟨j + (5 + N), AE, l - (5 + N), e - (5 + N), _, recs ++ [(1, ([1, 22, y1 * 256 + y2, (N : Int)], ([] : List Int)))], by first | rfl | rw [hAE], by have := HJ.out; have := HLR.out; omega, by have := HE.out; omega, fun h => by rw [← hAE, if_neg (by have := HE.out; have := HJ.out; have := HLR.out; omega), HOO.out]; (congr 2 <;> omega), by have := HRL.out; simp; omega, by have h := H6.out; rw [Nat.zero_add] at h; rw [tOf_upd]; exact h, Lib.hid (HB6.out.setCell (Nat.le_refl _) _), ReadsT.more HRD.out (by rw [HREST.out, dTls_more hNN (by omega) hfit (tRec22 (N := N) (by rw [List.length_take]; omega)), show j + (5 + N) = j + 5 + N by omega, ← List.drop_drop, ← List.drop_drop, HREST.out]; rfl)⟩
                  case measure => simp; have := HLR.out; omega
                · subst hkk
                  clear vc0 vc1 vc2 vc3 fc0 fc1 fc2 fc3
                  go_upto_region 27 with fail
                  refine wp_gen (fun W5 => Below wr.heap.size wr W5 ∧ W5.cell? ⟨P, 0, none⟩ = some (.slice (some ⟨NB, 0, none⟩) 4 4) ∧ W5.cell? ⟨P, 1, none⟩ = some (.slice A5 N (e - 5)) ∧ SN W5 (fun b => wr.heap.size ≤ b) (.slice (some ⟨NB, 0, none⟩) 4 4) [2, 23, y1 * 256 + y2, (N : Int)] ∧ SB W5 (fun b => wr.heap.size ≤ b ∨ (b < w.heap.size ∧ b ≠ R)) (.slice A5 N (e - 5)) (rest2.take N)) ?G (fun W5 hW5 => ?_)
                  case G =>
                    exact ⟨by have h0 := HBC.out; exact (by repeat (first | with_reducible assumption | with_reducible refine Below.drew ?_ | with_reducible refine below_drewN' ?_ _ | with_reducible refine Below.alloc ?_ ?_ _ | with_reducible refine Below.setCell ?_ ?_ _ | with_reducible exact Nat.le_refl _ | omega | focus (simp; done) | focus (simp; omega))), by go_simp, by go_simp, ⟨_, _, rfl, by simp, by simp, fun h => (by cases h), .inr ⟨NB, 0, rfl, by omega, by first | omega | (simp; omega), fun i x hx => by rcases i with _ | _ | _ | _ | i <;> simp at hx <;> subst hx <;> go_simp⟩⟩, (HS.out.imp (fun b hb hn => ⟨hb, hn⟩ : ∀ b, b < w.heap.size → b ≠ R → b < w.heap.size ∧ b ≠ R) |>.keeps (HKG.out.trans ((Keeps.of_below HBC.out).trans (by repeat (first | with_reducible assumption | with_reducible exact Keeps.refl _ _ | with_reducible refine Keeps.drew ?_ | with_reducible refine Keeps.drewN ?_ _ | with_reducible refine Keeps.alloc ?_ _ | with_reducible refine Keeps.setCell ?_ ?_ _ | omega | focus (simp; done) | focus (simp; omega)))))).imp (fun b _ hb => .inr hb)⟩
                  obtain ⟨hB5, z0, z1, hsn, hsb⟩ := hW5
                  have HF5 := Lib.hid (HF.out.below hB5)
                  have HSN := Lib.hid hsn
                  have HSB := Lib.hid hsb
                  have HB5 := Lib.hid hB5
                  have yi : W5.cell? ⟨w.heap.size + 1, 2, none⟩ = some (v 2) := by simpa using HF5.out.cells 2 (by omega)
                  have yf := HF5.out.froz 2
                  have l5 := hB5.size
                  have lP5 : P < W5.heap.size := World.block_lt_of_cell? _ _ z0
                  have lY5 : w.heap.size + 1 < W5.heap.size := World.block_lt_of_cell? _ _ yi
                  have hX := (HF5.out.below (show Below W5.heap.size W5 (W5.alloc (.cells #[.slice (some ⟨NB, 0, none⟩) 4 4, .slice A5 N (e - 5)] 44)) from (Below.refl _ _).alloc (Nat.le_refl _) _))
                  have HX := Lib.hid hX
                  have HRX := Lib.hid (show Rows eP (W5.alloc (.cells #[.slice (some ⟨NB, 0, none⟩) 4 4, .slice A5 N (e - 5)] 44)) W.heap.size (okF (w.heap.size + 1) w.heap.size R v (W5.heap.size + 1)) 44 (v 2) (tOf 2 recs) from (hX.row (i := 2) (by omega)).imp (Nat.le_refl _) (fun b _ hb => ⟨hb.1, by have := hb.2; rw [World.size_alloc] at this; exact this⟩))
                  clear hB5 hsn hsb hX z2 n0 n1 n2 n3
                  have HCL := Lib.hid (show ∀ j u, [.slice (some ⟨NB, 0, none⟩) 4 4, .slice A5 N (e - 5)][j]? = some u → (W5.alloc (.cells #[.slice (some ⟨NB, 0, none⟩) 4 4, .slice A5 N (e - 5)] 44)).cell? ⟨W5.heap.size, j, none⟩ = some u from fun j u hu => by
                    rcases j with _ | _ | j
                    · simp at hu; subst hu; go_simp
                    · simp at hu; subst hu; go_simp
                    · simp at hu)
                  have HREP := Lib.hid (show eP.R (W5.alloc (.cells #[.slice (some ⟨NB, 0, none⟩) 4 4, .slice A5 N (e - 5)] 44)) (fun b => okF (w.heap.size + 1) w.heap.size R v (W5.heap.size + 1) b ∧ some b ≠ (v 2).ownBlock) [.slice (some ⟨NB, 0, none⟩) 4 4, .slice A5 N (e - 5)] ([2, 23, y1 * 256 + y2, (N : Int)], (rest2.take N)) from by
                    refine ⟨_, _, rfl, (HSN.out.keeps (by repeat (first | with_reducible assumption | with_reducible exact Keeps.refl _ _ | with_reducible refine Keeps.drew ?_ | with_reducible refine Keeps.drewN ?_ _ | with_reducible refine Keeps.alloc ?_ _ | with_reducible refine Keeps.setCell ?_ ?_ _ | omega | focus (simp; done) | focus (simp; omega)))).imp (fun b hb ho => ?_), (HSB.out.keeps (by repeat (first | with_reducible assumption | with_reducible exact Keeps.refl _ _ | with_reducible refine Keeps.drew ?_ | with_reducible refine Keeps.drewN ?_ _ | with_reducible refine Keeps.alloc ?_ _ | with_reducible refine Keeps.setCell ?_ ?_ _ | omega | focus (simp; done) | focus (simp; omega)))).imp (fun b hb ho => ?_)⟩
                    · exact ⟨⟨⟨⟨by omega, by omega, by omega⟩, fun j hj e => by have := (HF.out.own hj e).2; omega⟩, by rw [World.size_alloc] at hb; exact hb⟩, fun e => by have := (HF.out.own (i := 2) (by omega) e.symm).2; omega⟩
                    · rcases ho with ho | ho
                      · exact ⟨⟨⟨⟨by omega, by omega, by omega⟩, fun j hj e => by have := (HF.out.own hj e).2; omega⟩, by rw [World.size_alloc] at hb; exact hb⟩, fun e => by have := (HF.out.own (i := 2) (by omega) e.symm).2; omega⟩
                      · exact ⟨⟨⟨⟨by omega, by omega, ho.2⟩, fun j hj e => by have := (HF.out.own hj e).1; omega⟩, by rw [World.size_alloc] at hb; exact hb⟩, fun e => by have := (HF.out.own (i := 2) (by omega) e.symm).1; omega⟩)
                  have HLEN := Lib.hid (show (tOf 2 recs).length ≤ 2147483648 from by have := HRL.out; have := HJ.out; have := tOf_le 2 recs; have := hLIM; omega)
                  go_wp2_with (at_builtin; refine wpList_append_all (E := eP) rfl (.tmp 140) (.tmp 142) 27 44 _ 48 rfl Tryz.underlying27 infoPart rfl (by decide) (by decide) (v := v 2) rfl HRX.out rfl (cs := [.slice (some ⟨NB, 0, none⟩) 4 4, .slice A5 N (e - 5)]) (y := ([2, 23, y1 * 256 + y2, (N : Int)], (rest2.take N))) HCL.out HREP.out HLEN.out (by first | omega | (simp; omega)) ?_)
                  intro q' c2 w6 hr6 hg6 ha6
                  have hk6 := grown_keeps (N := W.heap.size) hg6.out (fun k hk => (HF.out.own (i := 2) (by omega) hk).1)
                  have hY6 : w6.cell? ⟨w.heap.size + 1, 2, none⟩ = some (v 2) := hk6.cell lYW (by go_simp)
                  have hYf6 : w6.frozen? ⟨w.heap.size + 1, 2, none⟩ = false := hk6.frozen lYW (by first | omega | (simp; omega)) (by go_simp)
                  have lY6 : w.heap.size + 1 < w6.heap.size := World.block_lt_of_cell? _ _ hY6
                  have H6 := Lib.hid (HX.out.step (fun b hb => hb.1) (i := 2) (by omega) (hr6.out.imp (Nat.le_refl _) (fun b _ hb => ⟨hb.1, by rw [World.size_alloc]; exact hb.2⟩)) hg6.out (by have h := ha6.out; rw [World.size_alloc]; exact h))
                  have HB6 := Lib.hid (show Below (w.heap.size + 1) W w6 from (((HBW.out.trans (HB5.out.mono (by omega))).alloc (by omega) _).grown hg6.out (by simp; omega) (fun k hk => by have := (HF.out.own (i := 2) (by omega) hk).1; omega)))
                  clear hr6 hg6 ha6 hk6
                  go_wp2_with fail
                  go_roundw
                  case rel => exact ⟨j + (5 + N), AE, l - (5 + N), e - (5 + N), _, recs ++ [(2, ([2, 23, y1 * 256 + y2, (N : Int)], (rest2.take N)))], by first | rfl | rw [hAE], by have := HJ.out; have := HLR.out; omega, by have := HE.out; omega, fun h => by rw [← hAE, if_neg (by have := HE.out; have := HJ.out; have := HLR.out; omega), HOO.out]; (congr 2 <;> omega), by have := HRL.out; simp; omega, by have h := H6.out; rw [Nat.zero_add] at h; rw [tOf_upd]; exact h, Lib.hid (HB6.out.setCell (Nat.le_refl _) _), ReadsT.more HRD.out (by rw [HREST.out, dTls_more hNN (by omega) hfit (tRec23 (N := N) (by rw [List.length_take]; omega)), show j + (5 + N) = j + 5 + N by omega, ← List.drop_drop, ← List.drop_drop, HREST.out]; rfl)⟩
                  case measure => simp; have := HLR.out; omega
            · have hft : (l : Int) < 5 + (N : Int) := by have := HLR.out; omega
              go_wp2_with (first | (go_at_call 14; refine (number2_c y3 y4 b3 b4 (by go_simp) (by go_simp)).mono ?_; rintro e w' ⟨rfl, rfl⟩) | (go_at_call 12; refine none_c.mono ?_; rintro e w' ⟨rfl, rfl⟩))
              refine bodyPost_ret (v := .tuple #[zlay, .bool false, .bool true]) (by simp only [results, Tryz.results21]; go_simp) rfl ?_
              have h0 : Below w.heap.size w wr := HK.out.2.trans (HBW.out.mono (by omega))
              have hD := HRD.out
              unfold ReadsT at hD
              rw [HREST.out, dTls_long hNN (by omega)] at hD
              exact ⟨.inr (.inl ⟨by rw [hD]; rfl, rfl⟩), (by repeat (first | with_reducible assumption | with_reducible refine Below.drew ?_ | with_reducible refine below_drewN' ?_ _ | with_reducible refine Below.alloc ?_ ?_ _ | with_reducible refine Below.setCell ?_ ?_ _ | with_reducible exact Nat.le_refl _ | omega | focus (simp; done) | focus (simp; omega)))⟩
end Go.Proofs.YtmpifdanfnebpaaGreat
