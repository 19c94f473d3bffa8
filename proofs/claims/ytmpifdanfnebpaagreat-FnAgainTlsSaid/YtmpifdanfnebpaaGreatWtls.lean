/-
  SerializeTo of tls.
-/
import Derived.Test.YtmpifdanfnebpaaGreatIstls
import Derived.Test.YtmpifdanfnebpaaGreatMake
import Derived.Test.YtmpifdanfnebpaaGreatOn
import Derived.Test.YtmpifdanfnebpaaGreatEnct
namespace Go.Proofs.YtmpifdanfnebpaaGreat
open Go Go.RowKit

theorem m_ser_tls (k : Nat) (a : Addr) (w : World) : (method (k + 1) 144 (.pointer (some a)) "SerializeTo").run Tryz.prog w = .ok (137, .pointer (some a)) w := by kernel_rfl
theorem c_ser_tls (args : Array Value) (W : World) : (callFunc 137 args).run Tryz.prog W = .ok (.enter 137 args) W := by kernel_rfl

theorem flat_snocT {ps : List (List Int × List Int)} {k : Nat} {p : List Int × List Int} (h : ps[k]? = some p) : (ps.take (k + 1)).flatMap tB = (ps.take k).flatMap tB ++ tB p := by
  rw [List.take_add_one, h]
  simp
theorem flat_takeT {ps : List (List Int × List Int)} (k : Nat) : ((ps.take k).flatMap tB).length ≤ (ps.flatMap tB).length := by
  have e : ps.flatMap tB = (ps.take k).flatMap tB ++ (ps.drop k).flatMap tB := by rw [← List.flatMap_append, List.take_append_drop]
  rw [e, List.length_append]
  omega
theorem flat_leT {ps : List (List Int × List Int)} (h : ∀ p ∈ ps, OkP p) : ∀ k, ((ps.take k).flatMap tB).length ≤ 407 * k := by
  intro k
  induction k with
  | zero => simp
  | succ k ih =>
    rw [List.take_add_one]
    cases hk : ps[k]? with
    | none => simp at ih ⊢; omega
    | some p =>
      have hp := tB_len (h p (List.mem_of_getElem? hk))
      simp at ih ⊢
      omega
theorem OkA.len {v n : Int} {d : List Int} {i a : Int} (h : OkP ([i, a, v, n], d)) : d.length ≤ 400 := by
  rcases h with ⟨_, _, _, h, _⟩ | ⟨_, _, _, h, _, _, h2⟩ | ⟨_, _, _, _, h, _⟩
  · simp at h
  · simp at h
    obtain ⟨_, rfl⟩ := h
    exact h2
  · simp at h

set_option maxRecDepth 100000 in
set_option maxHeartbeats 4000000 in
theorem ser_tls4 {la lc ld : List (List Int × List Int)} (hoa : ∀ p ∈ la, OkP p) (hoc : ∀ p ∈ lc, OkP p) (hod : ∀ p ∈ ld, OkP p) (ha50 : la.length ≤ 50) (hc50 : lc.length ≤ 50) (hd50 : ld.length ≤ 50)
    (hpos : 0 < (la.flatMap tB).length + (lc.flatMap tB).length + (ld.flatMap tB).length) {w0 w : World} {X B : Nat} {p0 p1 p2 p3 : Option Addr} {c0 c1 c2 c3 : Nat} (lX : X < w0.heap.size)
    (x0 : w0.cell? ⟨X, 2, none⟩ = some (.slice p0 la.length c0)) (x1 : w0.cell? ⟨X, 3, none⟩ = some (.slice p1 0 c1)) (x2 : w0.cell? ⟨X, 4, none⟩ = some (.slice p2 lc.length c2)) (x3 : w0.cell? ⟨X, 5, none⟩ = some (.slice p3 ld.length c3))
    (hra : Rows eCcs w0 0 (fun _ => True) 157 (.slice p0 la.length c0) la) (hrc : Rows eApp w0 0 (fun _ => True) 161 (.slice p2 lc.length c2) lc) (hrd : Rows eAl w0 0 (fun _ => True) 165 (.slice p3 ld.length c3) ld)
    (hb : Below w0.heap.size w0 w) (hB : w0.heap.size ≤ B) (hbuf : Buf w B []) :
    Calls Tryz.prog 137 #[.pointer (some ⟨X, 0, none⟩), .iface 166 (.pointer (some ⟨B, 0, none⟩)), .agg #[.bool false, .bool false]] w fun e w' =>
      e = .returned .nilIface ∧ Below B w w' ∧ ∃ D s, Holds w' B D s (la.flatMap tB ++ (lc.flatMap tB ++ ld.flatMap tB)) := by
  have mp := m_prepend
  obtain ⟨na, hna⟩ : ∃ n, n = la.length := ⟨_, rfl⟩
  obtain ⟨nc, hnc⟩ : ∃ n, n = lc.length := ⟨_, rfl⟩
  obtain ⟨nd, hnd⟩ : ∃ n, n = ld.length := ⟨_, rfl⟩
  rw [← hna] at x0 ha50
  rw [← hnc] at x2 hc50
  rw [← hnd] at x3 hd50
  have HN0 := Lib.hid hna
  have HN2 := Lib.hid hnc
  have HN3 := Lib.hid hnd
  have HRA := Lib.hid hra
  have HRC := Lib.hid hrc
  have HRD := Lib.hid hrd
  have HOA := Lib.hid hoa
  have HOC := Lib.hid hoc
  have HOD := Lib.hid hod
  have HPOS := Lib.hid hpos
  have lXB : X < w.heap.size := Nat.lt_of_lt_of_le lX hb.size
  have m0 := (hb.cell (p := ⟨X, 2, none⟩) lX).trans x0
  have m1 := (hb.cell (p := ⟨X, 3, none⟩) lX).trans x1
  have m2 := (hb.cell (p := ⟨X, 4, none⟩) lX).trans x2
  have m3 := (hb.cell (p := ⟨X, 5, none⟩) lX).trans x3
  have lXw : X < w.heap.size := lXB
  have HBUF := Lib.hid hbuf
  have HB0 := Lib.hid hB
  have HBB := Lib.hid hb
  have lBw : B < w.heap.size := hbuf.lt
  replace lXB : X < B := by omega
  clear hra hrc hrd hoa hoc hod hpos hb hB hbuf x0 x1 x2 x3 hna hnc hnd
  go_enter Tryz.func137, Tryz.ntmps137
  go_wp2_with fail
  refine wp_gen (fun W => W.cell? ⟨w.heap.size, 0, none⟩ = some (.bool false) ∧ Below w.heap.size w W ∧ w.heap.size < W.heap.size) ?F (fun W1 hW1 => ?_)
  case F => exact ⟨by go_simp, by have h0 := Below.refl w.heap.size w; exact (by repeat (first | with_reducible assumption | with_reducible refine Below.drew ?_ | with_reducible refine below_drewN' ?_ _ | with_reducible refine Below.alloc ?_ ?_ _ | with_reducible refine Below.setCell ?_ ?_ _ | with_reducible exact Nat.le_refl _ | omega | focus (simp; done) | focus (simp; omega))), by first | omega | (simp; done) | (simp; omega)⟩
  obtain ⟨u1, hW, lO1⟩ := hW1
  have HW1 := Lib.hid hW
  have lX1 : X < W1.heap.size := by omega
  have y0 := (hW.cell (p := ⟨X, 2, none⟩) lXw).trans m0
  have y1 := (hW.cell (p := ⟨X, 3, none⟩) lXw).trans m1
  have y2 := (hW.cell (p := ⟨X, 4, none⟩) lXw).trans m2
  have y3 := (hW.cell (p := ⟨X, 5, none⟩) lXw).trans m3
  have HBR := Lib.hid (Below.refl W1.heap.size W1)
  clear hW
  go_loopw [7, 9, 30] (fun t _ i wr => ∃ k : Nat, k ≤ na ∧ i = .int .i64 (k : Int) ∧ t = .int .i64 ((((la.take k).flatMap tB).length : Int)) ∧ Hid (Below W1.heap.size W1 wr)) (fun _ _ i _ => na - (intOf i).toNat)
  case atStart => exact ⟨0, Nat.zero_le _, rfl, by simp, HBR⟩
  case round =>
    obtain ⟨k, hk, rfl, rfl, HBR⟩ := hrel
    have u0 := (HBR.out.cell (p := ⟨w.heap.size, 0, none⟩) lO1).trans u1
    have lXr : X < wr.heap.size := Nat.lt_of_lt_of_le lX1 HBR.out.size
    have lOr : w.heap.size < wr.heap.size := Nat.lt_of_lt_of_le lO1 HBR.out.size
    have x1 := (HBR.out.cell (p := ⟨X, 3, none⟩) lX1).trans y1
    have x2 := (HBR.out.cell (p := ⟨X, 4, none⟩) lX1).trans y2
    have x3 := (HBR.out.cell (p := ⟨X, 5, none⟩) lX1).trans y3
    have hle := flat_leT HOA.out k
    obtain ⟨lk, hlk⟩ : ∃ l, l = ((la.take k).flatMap tB).length := ⟨_, rfl⟩
    rw [← hlk] at hle ⊢
    have hlk2 : lk ≤ 407 * 50 := by omega
    have HLK := Lib.hid hlk
    clear hlk hle
    by_cases hlt : k < na
    · obtain ⟨gI, cI', cs, xp, hiv, hgI, -, hdk, hcs, xv, xn, xm, rfl, rfl, bv, bn, bm⟩ := HRA.out.get (j := k) (by have := HN0.out; omega)
      have hiv1 : p0 = some ⟨gI, 0, none⟩ := by simp only [Value.slice.injEq] at hiv; exact hiv.1
      subst hiv1
      have k0 : wr.cell? ⟨gI, k * 4, none⟩ = some (.int .u8 20) := ((HBR.out.cell (p := ⟨gI, k * 4 + 0, none⟩) (by have := HBB.out.size; have := HW1.out.size; simp only; omega)).trans (HW1.out.cell (p := ⟨gI, k * 4 + 0, none⟩) (by have := HBB.out.size; simp only; omega))).trans ((HBB.out.cell (p := ⟨gI, k * 4 + 0, none⟩) hgI).trans (hcs 0 _ rfl))
      have k1 : wr.cell? ⟨gI, k * 4 + 1, none⟩ = some (.int .u16 xv) := ((HBR.out.cell (p := ⟨gI, k * 4 + 1, none⟩) (by have := HBB.out.size; have := HW1.out.size; simp only; omega)).trans (HW1.out.cell (p := ⟨gI, k * 4 + 1, none⟩) (by have := HBB.out.size; simp only; omega))).trans ((HBB.out.cell (p := ⟨gI, k * 4 + 1, none⟩) hgI).trans (hcs 1 _ rfl))
      have k2 : wr.cell? ⟨gI, k * 4 + 2, none⟩ = some (.int .u16 xn) := ((HBR.out.cell (p := ⟨gI, k * 4 + 2, none⟩) (by have := HBB.out.size; have := HW1.out.size; simp only; omega)).trans (HW1.out.cell (p := ⟨gI, k * 4 + 2, none⟩) (by have := HBB.out.size; simp only; omega))).trans ((HBB.out.cell (p := ⟨gI, k * 4 + 2, none⟩) hgI).trans (hcs 2 _ rfl))
      have k3 : wr.cell? ⟨gI, k * 4 + 3, none⟩ = some (.int .u8 xm) := ((HBR.out.cell (p := ⟨gI, k * 4 + 3, none⟩) (by have := HBB.out.size; have := HW1.out.size; simp only; omega)).trans (HW1.out.cell (p := ⟨gI, k * 4 + 3, none⟩) (by have := HBB.out.size; simp only; omega))).trans ((HBB.out.cell (p := ⟨gI, k * 4 + 3, none⟩) hgI).trans (hcs 3 _ rfl))
      have lgr : gI < wr.heap.size := World.block_lt_of_cell? _ _ k0
      have hI : ((k : Nat) : Int) < (na : Int) := by omega
      have HDK := Lib.hid hdk
      have HK1 := Lib.hid hlt
      go_wp2_with fail
      go_roundw
      case rel => exact ⟨k + 1, HK1.out, by go_num, by have h3 := HLK.out; rw [flat_snocT HDK.out, List.length_append, ← h3]; simp [tB] <;> omega, Lib.hid (by have h0 := HBR.out; have := h0.size; exact (by repeat (first | with_reducible assumption | with_reducible refine Below.drew ?_ | with_reducible refine below_drewN' ?_ _ | with_reducible refine Below.alloc ?_ ?_ _ | with_reducible refine Below.setCell ?_ ?_ _ | with_reducible exact Nat.le_refl _ | omega | focus (simp; done) | focus (simp; omega))))⟩
      case measure => have := HK1.out; simp [intOf]; omega
    · obtain rfl : na = k := by omega
      have hI : ¬ ((na : Nat) : Int) < (na : Int) := by omega
      have ht0 : lk = (la.flatMap tB).length := by have h3 := HLK.out; rw [List.take_of_length_le (by have := HN0.out; omega)] at h3; exact h3
      have HT0 := Lib.hid ht0
      clear ht0 HLK
      obtain ⟨t0, rfl⟩ : ∃ t, t = lk := ⟨_, rfl⟩
      go_wp2_with fail
      go_loopw [7, 46] (fun t i wr => i = .int .i64 0 ∧ t = .int .i64 (t0 : Int) ∧ Hid (Below W1.heap.size W1 wr)) (fun _ i _ => 0)
      case atStart => exact ⟨rfl, rfl, HBR⟩
      case round =>
        obtain ⟨rfl, rfl, HBR⟩ := hrel
        have x2 := (HBR.out.cell (p := ⟨X, 4, none⟩) lX1).trans y2
        have x3 := (HBR.out.cell (p := ⟨X, 5, none⟩) lX1).trans y3
        have lXr : X < wr.heap.size := Nat.lt_of_lt_of_le lX1 HBR.out.size
        go_wp2_with fail
        go_loopw [7, 11, 56] (fun t _ i wr => ∃ k : Nat, k ≤ nc ∧ i = .int .i64 (k : Int) ∧ t = .int .i64 ((t0 : Int) + (((lc.take k).flatMap tB).length : Int)) ∧ Hid (Below W1.heap.size W1 wr)) (fun _ _ i _ => nc - (intOf i).toNat)
        case atStart => exact ⟨0, Nat.zero_le _, rfl, by simp, HBR⟩
        case round =>
          obtain ⟨k, hk, rfl, rfl, HBR⟩ := hrel
          have u0 := (HBR.out.cell (p := ⟨w.heap.size, 0, none⟩) lO1).trans u1
          have lXr : X < wr.heap.size := Nat.lt_of_lt_of_le lX1 HBR.out.size
          have lOr : w.heap.size < wr.heap.size := Nat.lt_of_lt_of_le lO1 HBR.out.size
          have x3 := (HBR.out.cell (p := ⟨X, 5, none⟩) lX1).trans y3
          have hle := flat_leT HOC.out k
          obtain ⟨lk, hlk⟩ : ∃ l, l = ((lc.take k).flatMap tB).length := ⟨_, rfl⟩
          rw [← hlk] at hle ⊢
          have hlk2 : lk ≤ 407 * 50 := by omega
          have HLK := Lib.hid hlk
          clear hlk hle
          by_cases hlt : k < nc
          · obtain ⟨gI, cI', cs, xp, hiv, hgI, -, hdk, hcs, xv, xn, u, xd, rfl, rfl, hu, bv, bn, bl⟩ := HRC.out.get (j := k) (by have := HN2.out; omega)
            have hiv1 : p2 = some ⟨gI, 0, none⟩ := by simp only [Value.slice.injEq] at hiv; exact hiv.1
            subst hiv1
            have hbd := OkA.len (HOC.out _ (List.mem_of_getElem? hdk))
            have HU := Lib.hid (hu.imp (fun b hb _ => hb : ∀ b, b < w0.heap.size → True → b < w0.heap.size))
            obtain ⟨pu, cu, rfl, -⟩ := hu
            have k0 : wr.cell? ⟨gI, k * 4, none⟩ = some (.int .u8 23) := ((HBR.out.cell (p := ⟨gI, k * 4 + 0, none⟩) (by have := HBB.out.size; have := HW1.out.size; simp only; omega)).trans (HW1.out.cell (p := ⟨gI, k * 4 + 0, none⟩) (by have := HBB.out.size; simp only; omega))).trans ((HBB.out.cell (p := ⟨gI, k * 4 + 0, none⟩) hgI).trans (hcs 0 _ rfl))
            have k1 : wr.cell? ⟨gI, k * 4 + 1, none⟩ = some (.int .u16 xv) := ((HBR.out.cell (p := ⟨gI, k * 4 + 1, none⟩) (by have := HBB.out.size; have := HW1.out.size; simp only; omega)).trans (HW1.out.cell (p := ⟨gI, k * 4 + 1, none⟩) (by have := HBB.out.size; simp only; omega))).trans ((HBB.out.cell (p := ⟨gI, k * 4 + 1, none⟩) hgI).trans (hcs 1 _ rfl))
            have k2 : wr.cell? ⟨gI, k * 4 + 2, none⟩ = some (.int .u16 xn) := ((HBR.out.cell (p := ⟨gI, k * 4 + 2, none⟩) (by have := HBB.out.size; have := HW1.out.size; simp only; omega)).trans (HW1.out.cell (p := ⟨gI, k * 4 + 2, none⟩) (by have := HBB.out.size; simp only; omega))).trans ((HBB.out.cell (p := ⟨gI, k * 4 + 2, none⟩) hgI).trans (hcs 2 _ rfl))
            have k3 : wr.cell? ⟨gI, k * 4 + 3, none⟩ = some (.slice pu xd.length cu) := ((HBR.out.cell (p := ⟨gI, k * 4 + 3, none⟩) (by have := HBB.out.size; have := HW1.out.size; simp only; omega)).trans (HW1.out.cell (p := ⟨gI, k * 4 + 3, none⟩) (by have := HBB.out.size; simp only; omega))).trans ((HBB.out.cell (p := ⟨gI, k * 4 + 3, none⟩) hgI).trans (hcs 3 _ rfl))
            have lgr : gI < wr.heap.size := World.block_lt_of_cell? _ _ k0
            have hI : ((k : Nat) : Int) < (nc : Int) := by omega
            have HDK := Lib.hid hdk
            have HK1 := Lib.hid hlt
            go_wp2_with fail
            go_roundw
            case rel => exact ⟨k + 1, HK1.out, by go_num, by have h3 := HLK.out; rw [flat_snocT HDK.out, List.length_append, ← h3]; simp [tB] <;> omega, Lib.hid (by have h0 := HBR.out; have := h0.size; exact (by repeat (first | with_reducible assumption | with_reducible refine Below.drew ?_ | with_reducible refine below_drewN' ?_ _ | with_reducible refine Below.alloc ?_ ?_ _ | with_reducible refine Below.setCell ?_ ?_ _ | with_reducible exact Nat.le_refl _ | omega | focus (simp; done) | focus (simp; omega))))⟩
            case measure => have := HK1.out; simp [intOf]; omega
          · obtain rfl : nc = k := by omega
            have hI : ¬ ((nc : Nat) : Int) < (nc : Int) := by omega
            have ht2 : lk = (lc.flatMap tB).length := by have h3 := HLK.out; rw [List.take_of_length_le (by have := HN2.out; omega)] at h3; exact h3
            have HT2 := Lib.hid ht2
            clear ht2 HLK
            obtain ⟨t2, rfl⟩ : ∃ t, t = lk := ⟨_, rfl⟩
            go_wp2_with fail
            go_loopw [7, 13, 80] (fun t _ i wr => ∃ k : Nat, k ≤ nd ∧ i = .int .i64 (k : Int) ∧ t = .int .i64 ((t0 : Int) + (t2 : Int) + (((ld.take k).flatMap tB).length : Int)) ∧ Hid (Below W1.heap.size W1 wr)) (fun _ _ i _ => nd - (intOf i).toNat)
            case atStart => exact ⟨0, Nat.zero_le _, rfl, by simp, HBR⟩
            case round =>
              obtain ⟨k, hk, rfl, rfl, HBR⟩ := hrel
              have u0 := (HBR.out.cell (p := ⟨w.heap.size, 0, none⟩) lO1).trans u1
              have lXr : X < wr.heap.size := Nat.lt_of_lt_of_le lX1 HBR.out.size
              have lOr : w.heap.size < wr.heap.size := Nat.lt_of_lt_of_le lO1 HBR.out.size
              have hle := flat_leT HOD.out k
              obtain ⟨lk, hlk⟩ : ∃ l, l = ((ld.take k).flatMap tB).length := ⟨_, rfl⟩
              rw [← hlk] at hle ⊢
              have hlk2 : lk ≤ 407 * 50 := by omega
              have HLK := Lib.hid hlk
              clear hlk hle
              by_cases hlt : k < nd
              · obtain ⟨gI, cI', cs, xp, hiv, hgI, -, hdk, hcs, xv, xn, xa, xb, u, rfl, rfl, hu, bv, bn, ba, bb⟩ := HRD.out.get (j := k) (by have := HN3.out; omega)
                have hiv1 : p3 = some ⟨gI, 0, none⟩ := by simp only [Value.slice.injEq] at hiv; exact hiv.1
                subst hiv1
                obtain ⟨pu, cu, rfl, -⟩ := hu
                replace hcs : ∀ (i : Nat) (x : Value), [Value.int .u8 21, .int .u16 xv, .int .u16 xn, .int .u8 xa, .int .u8 xb, .slice pu 0 cu][i]? = some x → w0.cell? ⟨gI, k * 6 + i, none⟩ = some x := hcs
                have k0 : wr.cell? ⟨gI, k * 6, none⟩ = some (.int .u8 21) := ((HBR.out.cell (p := ⟨gI, k * 6 + 0, none⟩) (by have := HBB.out.size; have := HW1.out.size; simp only; omega)).trans (HW1.out.cell (p := ⟨gI, k * 6 + 0, none⟩) (by have := HBB.out.size; simp only; omega))).trans ((HBB.out.cell (p := ⟨gI, k * 6 + 0, none⟩) hgI).trans (hcs 0 _ rfl))
                have k1 : wr.cell? ⟨gI, k * 6 + 1, none⟩ = some (.int .u16 xv) := ((HBR.out.cell (p := ⟨gI, k * 6 + 1, none⟩) (by have := HBB.out.size; have := HW1.out.size; simp only; omega)).trans (HW1.out.cell (p := ⟨gI, k * 6 + 1, none⟩) (by have := HBB.out.size; simp only; omega))).trans ((HBB.out.cell (p := ⟨gI, k * 6 + 1, none⟩) hgI).trans (hcs 1 _ rfl))
                have k2 : wr.cell? ⟨gI, k * 6 + 2, none⟩ = some (.int .u16 xn) := ((HBR.out.cell (p := ⟨gI, k * 6 + 2, none⟩) (by have := HBB.out.size; have := HW1.out.size; simp only; omega)).trans (HW1.out.cell (p := ⟨gI, k * 6 + 2, none⟩) (by have := HBB.out.size; simp only; omega))).trans ((HBB.out.cell (p := ⟨gI, k * 6 + 2, none⟩) hgI).trans (hcs 2 _ rfl))
                have k3 : wr.cell? ⟨gI, k * 6 + 3, none⟩ = some (.int .u8 xa) := ((HBR.out.cell (p := ⟨gI, k * 6 + 3, none⟩) (by have := HBB.out.size; have := HW1.out.size; simp only; omega)).trans (HW1.out.cell (p := ⟨gI, k * 6 + 3, none⟩) (by have := HBB.out.size; simp only; omega))).trans ((HBB.out.cell (p := ⟨gI, k * 6 + 3, none⟩) hgI).trans (hcs 3 _ rfl))
                have k4 : wr.cell? ⟨gI, k * 6 + 4, none⟩ = some (.int .u8 xb) := ((HBR.out.cell (p := ⟨gI, k * 6 + 4, none⟩) (by have := HBB.out.size; have := HW1.out.size; simp only; omega)).trans (HW1.out.cell (p := ⟨gI, k * 6 + 4, none⟩) (by have := HBB.out.size; simp only; omega))).trans ((HBB.out.cell (p := ⟨gI, k * 6 + 4, none⟩) hgI).trans (hcs 4 _ rfl))
                have k5 : wr.cell? ⟨gI, k * 6 + 5, none⟩ = some (.slice pu 0 cu) := ((HBR.out.cell (p := ⟨gI, k * 6 + 5, none⟩) (by have := HBB.out.size; have := HW1.out.size; simp only; omega)).trans (HW1.out.cell (p := ⟨gI, k * 6 + 5, none⟩) (by have := HBB.out.size; simp only; omega))).trans ((HBB.out.cell (p := ⟨gI, k * 6 + 5, none⟩) hgI).trans (hcs 5 _ rfl))
                have lgr : gI < wr.heap.size := World.block_lt_of_cell? _ _ k0
                have hI : ((k : Nat) : Int) < (nd : Int) := by omega
                have HDK := Lib.hid hdk
                have HK1 := Lib.hid hlt
                go_wp2_with fail
                go_roundw
                case rel => exact ⟨k + 1, HK1.out, by go_num, by have h3 := HLK.out; rw [flat_snocT HDK.out, List.length_append, ← h3]; simp [tB] <;> omega, Lib.hid (by have h0 := HBR.out; have := h0.size; exact (by repeat (first | with_reducible assumption | with_reducible refine Below.drew ?_ | with_reducible refine below_drewN' ?_ _ | with_reducible refine Below.alloc ?_ ?_ _ | with_reducible refine Below.setCell ?_ ?_ _ | with_reducible exact Nat.le_refl _ | omega | focus (simp; done) | focus (simp; omega))))⟩
                case measure => have := HK1.out; simp [intOf]; omega
              · obtain rfl : nd = k := by omega
                have hI : ¬ ((nd : Nat) : Int) < (nd : Int) := by omega
                have ht3 : lk = (ld.flatMap tB).length := by have h3 := HLK.out; rw [List.take_of_length_le (by have := HN3.out; omega)] at h3; exact h3
                have HT3 := Lib.hid ht3
                clear ht3 HLK
                obtain ⟨t3, rfl⟩ : ∃ t, t = lk := ⟨_, rfl⟩
                go_wp2_with fail
                obtain ⟨K, hK⟩ : ∃ K : Nat, (t0 : Int) + (t2 : Int) + (t3 : Int) = (K : Int) := ⟨t0 + t2 + t3, by omega⟩
                rw [hK]
                have HKK := Lib.hid (show K = t0 + t2 + t3 by omega)
                have hK0 : 0 < K := by have h1 := HT0.out; have h2 := HT2.out; have h3 := HT3.out; have h4 := HPOS.out; omega
                have hK9 : K ≤ 100000 := by omega
                clear hK
                have H1 := Lib.hid (show Below w.heap.size w wr from HW1.out.trans (HBR.out.mono HW1.out.size))
                refine (prepend_c (k := K) (bs := []) (HBUF.out.keeps H1.out) hK0 (by omega) (by simp)).mono ?_
                rintro e1 w2 ⟨D, s, c, xs, rfl, hcc, hcm, hxl, hh, hb2, hk2, hD2⟩
                rw [List.append_nil] at hh
                have lBD : B < D := hh.lt
                have lD2 : D < w2.heap.size := hh.ltD
                have HA := Lib.hid (Ahead.start hh)
                have HB2 := Lib.hid (show Below B w w2 from (H1.out.mono (by omega)).trans hb2)
                have HXL := Lib.hid hxl
                have lX2 : X < w2.heap.size := by omega
                have z0 := (HB2.out.cell (p := ⟨X, 2, none⟩) lXB).trans m0
                have z1 := (HB2.out.cell (p := ⟨X, 3, none⟩) lXB).trans m1
                have z2 := (HB2.out.cell (p := ⟨X, 4, none⟩) lXB).trans m2
                have z3 := (HB2.out.cell (p := ⟨X, 5, none⟩) lXB).trans m3
                clear hh hb2 hk2 hD2 hxl H1 HBR u0 lXr lOr hI hlt hk
                go_wp2_with fail
                go_loopw [16, 18, 123] (fun off _ i wr => ∃ k : Nat, k ≤ na ∧ i = .int .i64 (k : Int) ∧ off = .int .i64 (((([] : List Int) ++ (la.take k).flatMap tB).length : Nat) : Int) ∧ Hid (Ahead wr B D s (([] : List Int) ++ (la.take k).flatMap tB) xs) ∧ Hid (Below B w wr)) (fun _ _ i _ => na - (intOf i).toNat)
                case atStart => exact ⟨0, Nat.zero_le _, rfl, by simp, by rw [List.take_zero, List.flatMap_nil, List.append_nil]; exact HA, HB2⟩
                case round =>
                  obtain ⟨k, hk, rfl, rfl, HA, HBR⟩ := hrel
                  obtain ⟨P, hP⟩ : ∃ P, P = ([] : List Int) ++ (la.take k).flatMap tB := ⟨_, rfl⟩
                  rw [← hP] at HA ⊢
                  obtain ⟨j, hj⟩ : ∃ j, j = P.length := ⟨_, rfl⟩
                  rw [← hj]
                  have HP := Lib.hid hP
                  have HJ := Lib.hid hj
                  have jK := HA.out.1
                  rw [← hj, HXL.out] at jK
                  clear hP hj
                  have z1 := (HBR.out.cell (p := ⟨X, 3, none⟩) lXB).trans m1
                  have z2 := (HBR.out.cell (p := ⟨X, 4, none⟩) lXB).trans m2
                  have z3 := (HBR.out.cell (p := ⟨X, 5, none⟩) lXB).trans m3
                  have lDr : D < wr.heap.size := HA.out.2.ltD
                  have lXr : X < wr.heap.size := by omega
                  by_cases hlt : k < na
                  · obtain ⟨gI, cI', cs, xp, hiv, hgI, -, hdk, hcs, xv, xn, xm, rfl, rfl, bv, bn, bm⟩ := HRA.out.get (j := k) (by have := HN0.out; omega)
                    have hiv1 : p0 = some ⟨gI, 0, none⟩ := by simp only [Value.slice.injEq] at hiv; exact hiv.1
                    subst hiv1
                    have hgB : gI < B := by have := HB0.out; omega
                    have k0 : wr.cell? ⟨gI, k * 4, none⟩ = some (.int .u8 20) := (HBR.out.cell (p := ⟨gI, k * 4 + 0, none⟩) hgB).trans ((HBB.out.cell (p := ⟨gI, k * 4 + 0, none⟩) hgI).trans (hcs 0 _ rfl))
                    have k1 : wr.cell? ⟨gI, k * 4 + 1, none⟩ = some (.int .u16 xv) := (HBR.out.cell (p := ⟨gI, k * 4 + 1, none⟩) hgB).trans ((HBB.out.cell (p := ⟨gI, k * 4 + 1, none⟩) hgI).trans (hcs 1 _ rfl))
                    have k2 : wr.cell? ⟨gI, k * 4 + 2, none⟩ = some (.int .u16 xn) := (HBR.out.cell (p := ⟨gI, k * 4 + 2, none⟩) hgB).trans ((HBB.out.cell (p := ⟨gI, k * 4 + 2, none⟩) hgI).trans (hcs 2 _ rfl))
                    have k3 : wr.cell? ⟨gI, k * 4 + 3, none⟩ = some (.int .u8 xm) := (HBR.out.cell (p := ⟨gI, k * 4 + 3, none⟩) hgB).trans ((HBB.out.cell (p := ⟨gI, k * 4 + 3, none⟩) hgI).trans (hcs 3 _ rfl))
                    have lgr : gI < wr.heap.size := World.block_lt_of_cell? _ _ k0
                    have hI : ((k : Nat) : Int) < (na : Int) := by omega
                    have HDK := Lib.hid hdk
                    have HK1 := Lib.hid hlt
                    have hroom : j + 6 ≤ K := by
                      have h2 := congrArg List.length HP.out
                      have h3 := HJ.out
                      have h4 := flat_takeT (ps := la) (k + 1)
                      rw [flat_snocT HDK.out, List.length_append] at h4
                      have h5 : (tB ([0, 20, xv, xn, xm], ([] : List Int))).length = 6 := by simp [tB] <;> omega
                      rw [h5] at h4
                      rw [← h3] at h2
                      have h6 := HKK.out
                      have h7 := HT0.out
                      have h8 := HT2.out
                      have h9 := HT3.out
                      simp only [List.length_append, List.length_nil] at h2
                      omega
                    have q0 : gI < B := hgB
                    go_wp2_with fail
                    refine (enct_a (B := B) (j := j) (K := K) (P := P) (zs := xs) (by omega) (by omega) (HA.out.keeps (show Below wr.heap.size wr _ from by have h0 := Below.refl wr.heap.size wr; exact (by repeat (first | with_reducible assumption | with_reducible refine Below.drew ?_ | with_reducible refine below_drewN' ?_ _ | with_reducible refine Below.alloc ?_ ?_ _ | with_reducible refine Below.setCell ?_ ?_ _ | with_reducible exact Nat.le_refl _ | omega | focus (simp; done) | focus (simp; omega))))) HJ.out HXL.out.symm (by omega) hcc hcm).mono ?_
                    rintro e5 w5 ⟨rfl, hA5, hB5, hK5⟩
                    have r3 : w5.cell? ⟨wr.heap.size, 3, none⟩ = some (.int .u8 xm) := hK5.cell (b := wr.heap.size) (by omega) (by go_simp)
                    have lR5 : wr.heap.size < w5.heap.size := World.block_lt_of_cell? _ _ r3
                    have HB5 := Lib.hid (show Below B w w5 from Below.trans (by have h0 := HBR.out; have := h0.size; exact (by repeat (first | with_reducible assumption | with_reducible refine Below.drew ?_ | with_reducible refine below_drewN' ?_ _ | with_reducible refine Below.alloc ?_ ?_ _ | with_reducible refine Below.setCell ?_ ?_ _ | with_reducible exact Nat.le_refl _ | omega | focus (simp; done) | focus (simp; omega)))) (hB5.mono (by omega)))
                    have HA5 := Lib.hid hA5
                    have lD5 : D < w5.heap.size := by omega
                    have hPl : (P ++ [20, xv / 256, xv % 256, xn / 256, xn % 256]).length = j + 5 := by rw [List.length_append, ← HJ.out]; rfl
                    have HPL := Lib.hid hPl
                    obtain ⟨dx, dc⟩ := hA5.cell (i := j + 5) (by have := HXL.out; omega)
                    have df := hA5.2.frD (s + (j + 5))
                    have jKi : (j : Int) + 5 < (K : Int) := by omega
                    have HNX := Lib.hid (show ([] : List Int) ++ (la.take (k + 1)).flatMap tB = (P ++ [20, xv / 256, xv % 256, xn / 256, xn % 256]) ++ [xm] from by rw [flat_snocT HDK.out, ← List.append_assoc, ← HP.out]; simp [tB])
                    clear hA5 hB5 hK5 hPl
                    go_wp2_with fail
                    go_roundw
                    case rel => exact ⟨k + 1, HK1.out, by go_num, by have h := congrArg List.length HNX.out; rw [h]; simp; have := HJ.out; omega, by rw [HNX.out]; exact Lib.hid (HA5.out.next (by have h1 := HPL.out; have h2 := HXL.out; omega) (by have h1 := HPL.out; omega) rfl), Lib.hid (by have h0 := HB5.out; have := h0.size; exact (by repeat (first | with_reducible assumption | with_reducible refine Below.drew ?_ | with_reducible refine below_drewN' ?_ _ | with_reducible refine Below.alloc ?_ ?_ _ | with_reducible refine Below.setCell ?_ ?_ _ | with_reducible exact Nat.le_refl _ | omega | focus (simp; done) | focus (simp; omega))))⟩
                    case measure => have := HK1.out; simp [intOf]; omega
                  · obtain rfl : na = k := by omega
                    have hI : ¬ ((na : Nat) : Int) < (na : Int) := by omega
                    have hPe : P = ([] : List Int) ++ la.flatMap tB := by rw [HP.out, List.take_of_length_le (by have := HN0.out; omega)]
                    rw [hPe] at HA HJ
                    rw [HJ.out]
                    have HB2 := HBR
                    clear HBR HP HJ hPe hI hlt jK hk
                    go_wp2_with fail
                    go_loopw [16, 20, 145] (fun off _ i wr => i = .int .i64 0 ∧ off = .int .i64 ((((([] : List Int) ++ la.flatMap tB)).length : Nat) : Int) ∧ Hid (Ahead wr B D s ((([] : List Int) ++ la.flatMap tB)) xs) ∧ Hid (Below B w wr)) (fun _ _ i _ => 0)
                    case atStart => exact ⟨rfl, rfl, HA, HB2⟩
                    case round =>
                      obtain ⟨rfl, rfl, HA, HB2⟩ := hrel
                      have z2 := (HB2.out.cell (p := ⟨X, 4, none⟩) lXB).trans m2
                      have z3 := (HB2.out.cell (p := ⟨X, 5, none⟩) lXB).trans m3
                      have lX2 : X < wr.heap.size := World.block_lt_of_cell? _ _ z2
                      go_wp2_with fail
                      go_loopw [16, 22, 160] (fun off _ i wr => ∃ k : Nat, k ≤ nc ∧ i = .int .i64 (k : Int) ∧ off = .int .i64 ((((([] : List Int) ++ la.flatMap tB) ++ (lc.take k).flatMap tB).length : Nat) : Int) ∧ Hid (Ahead wr B D s ((([] : List Int) ++ la.flatMap tB) ++ (lc.take k).flatMap tB) xs) ∧ Hid (Below B w wr)) (fun _ _ i _ => nc - (intOf i).toNat)
                      case atStart => exact ⟨0, Nat.zero_le _, rfl, by simp, by rw [List.take_zero, List.flatMap_nil, List.append_nil]; exact HA, HB2⟩
                      case round =>
                        obtain ⟨k, hk, rfl, rfl, HA, HBR⟩ := hrel
                        obtain ⟨P, hP⟩ : ∃ P, P = (([] : List Int) ++ la.flatMap tB) ++ (lc.take k).flatMap tB := ⟨_, rfl⟩
                        rw [← hP] at HA ⊢
                        obtain ⟨j, hj⟩ : ∃ j, j = P.length := ⟨_, rfl⟩
                        rw [← hj]
                        have HP := Lib.hid hP
                        have HJ := Lib.hid hj
                        have jK := HA.out.1
                        rw [← hj, HXL.out] at jK
                        clear hP hj
                        have z3 := (HBR.out.cell (p := ⟨X, 5, none⟩) lXB).trans m3
                        have lDr : D < wr.heap.size := HA.out.2.ltD
                        have lXr : X < wr.heap.size := by omega
                        by_cases hlt : k < nc
                        · obtain ⟨gI, cI', cs, xp, hiv, hgI, -, hdk, hcs, xv, xn, u, xd, rfl, rfl, hu, bv, bn, bl⟩ := HRC.out.get (j := k) (by have := HN2.out; omega)
                          have hiv1 : p2 = some ⟨gI, 0, none⟩ := by simp only [Value.slice.injEq] at hiv; exact hiv.1
                          subst hiv1
                          have hbd := OkA.len (HOC.out _ (List.mem_of_getElem? hdk))
                          have HU := Lib.hid (hu.imp (fun b hb _ => hb : ∀ b, b < w0.heap.size → True → b < w0.heap.size))
                          obtain ⟨pu, cu, rfl, -⟩ := hu
                          have hgB : gI < B := by have := HB0.out; omega
                          have k0 : wr.cell? ⟨gI, k * 4, none⟩ = some (.int .u8 23) := (HBR.out.cell (p := ⟨gI, k * 4 + 0, none⟩) hgB).trans ((HBB.out.cell (p := ⟨gI, k * 4 + 0, none⟩) hgI).trans (hcs 0 _ rfl))
                          have k1 : wr.cell? ⟨gI, k * 4 + 1, none⟩ = some (.int .u16 xv) := (HBR.out.cell (p := ⟨gI, k * 4 + 1, none⟩) hgB).trans ((HBB.out.cell (p := ⟨gI, k * 4 + 1, none⟩) hgI).trans (hcs 1 _ rfl))
                          have k2 : wr.cell? ⟨gI, k * 4 + 2, none⟩ = some (.int .u16 xn) := (HBR.out.cell (p := ⟨gI, k * 4 + 2, none⟩) hgB).trans ((HBB.out.cell (p := ⟨gI, k * 4 + 2, none⟩) hgI).trans (hcs 2 _ rfl))
                          have k3 : wr.cell? ⟨gI, k * 4 + 3, none⟩ = some (.slice pu xd.length cu) := (HBR.out.cell (p := ⟨gI, k * 4 + 3, none⟩) hgB).trans ((HBB.out.cell (p := ⟨gI, k * 4 + 3, none⟩) hgI).trans (hcs 3 _ rfl))
                          have lgr : gI < wr.heap.size := World.block_lt_of_cell? _ _ k0
                          have hI : ((k : Nat) : Int) < (nc : Int) := by omega
                          have HDK := Lib.hid hdk
                          have HK1 := Lib.hid hlt
                          have hroom : j + (5 + xd.length) ≤ K := by
                            have h2 := congrArg List.length HP.out
                            have h3 := HJ.out
                            have h4 := flat_takeT (ps := lc) (k + 1)
                            rw [flat_snocT HDK.out, List.length_append] at h4
                            have h5 : (tB ([2, 23, xv, xn], xd)).length = (5 + xd.length) := by simp [tB] <;> omega
                            rw [h5] at h4
                            rw [← h3] at h2
                            have h6 := HKK.out
                            have h7 := HT0.out
                            have h8 := HT2.out
                            have h9 := HT3.out
                            simp only [List.length_append, List.length_nil] at h2
                            omega
                          have q0 : gI < B := hgB
                          go_wp2_with fail
                          refine (enct_a (B := B) (j := j) (K := K) (P := P) (zs := xs) (by omega) (by omega) (HA.out.keeps (show Below wr.heap.size wr _ from by have h0 := Below.refl wr.heap.size wr; exact (by repeat (first | with_reducible assumption | with_reducible refine Below.drew ?_ | with_reducible refine below_drewN' ?_ _ | with_reducible refine Below.alloc ?_ ?_ _ | with_reducible refine Below.setCell ?_ ?_ _ | with_reducible exact Nat.le_refl _ | omega | focus (simp; done) | focus (simp; omega))))) HJ.out HXL.out.symm (by omega) hcc hcm).mono ?_
                          rintro e5 w5 ⟨rfl, hA5, hB5, hK5⟩
                          have r3 : w5.cell? ⟨wr.heap.size, 3, none⟩ = some (.slice pu xd.length cu) := hK5.cell (b := wr.heap.size) (by omega) (by go_simp)
                          have lR5 : wr.heap.size < w5.heap.size := World.block_lt_of_cell? _ _ r3
                          have HB5 := Lib.hid (show Below B w w5 from Below.trans (by have h0 := HBR.out; have := h0.size; exact (by repeat (first | with_reducible assumption | with_reducible refine Below.drew ?_ | with_reducible refine below_drewN' ?_ _ | with_reducible refine Below.alloc ?_ ?_ _ | with_reducible refine Below.setCell ?_ ?_ _ | with_reducible exact Nat.le_refl _ | omega | focus (simp; done) | focus (simp; omega)))) (hB5.mono (by omega)))
                          have HA5 := Lib.hid hA5
                          have lD5 : D < w5.heap.size := by omega
                          have hPl : (P ++ [23, xv / 256, xv % 256, xn / 256, xn % 256]).length = j + 5 := by rw [List.length_append, ← HJ.out]; rfl
                          have HPL := Lib.hid hPl
                          obtain ⟨A4, hA4⟩ : ∃ A, (if c = j + 5 then some (⟨D, s, none⟩ : Addr) else some ⟨D, s + (j + 5), none⟩) = A := ⟨_, rfl⟩
                          have jKi : (j : Int) + 5 ≤ (K : Int) := by omega
                          have jci : (j : Int) + 5 ≤ (c : Int) := by omega
                          have HU5 := Lib.hid (HU.out.keeps (w' := w5) ⟨by have := HBB.out.size; have := HB5.out.size; omega, fun b hb hl => (HB5.out.block b (by have := HB0.out; omega)).trans (HBB.out.block b hl)⟩)
                          have HNX := Lib.hid (show (([] : List Int) ++ la.flatMap tB) ++ (lc.take (k + 1)).flatMap tB = (P ++ [23, xv / 256, xv % 256, xn / 256, xn % 256]) ++ xd from by rw [flat_snocT HDK.out, ← List.append_assoc, ← HP.out]; simp [tB])
                          clear hA5 hB5 hK5 hPl
                          go_wp2_with fail
                          refine wp_region_on (fun b => b = wr.heap.size) (fun b hb => by first | omega | (rcases hb with hb | hb <;> omega) | (rcases hb with hb | hb <;> simp <;> omega)) [5] (.q 0 (.q 1 (.q 2 (.q 3 (.q 4 (.l 5 .done .stop)))))) (by kernel_rfl) (by kernel_rfl) (fun _ _ d _ _ h => by cases d <;> exact h) (by simp only [Ord.fill, nthOp]; rfl) ?_; intro hSm
                          repeat
                            first | refine lexO_pass rfl ?_ | (refine lexO_take2 ?_ rfl (by kernel_rfl) (by with_reducible assumption) (fun w' hS K Q' hK => ?_) ?_; rotate_left; focus (have hS2 := hS.2; clear hS; go_wp2_with fail; exact hK))
                          refine lexO_do rfl (fun K' hK' => ?_) lexO_stop
                          refine wp_copy_sb (.tmp 171) (.tmp 173) 22 22 rfl Tryz.underlying22 (D := D) (k := s + (j + 5)) (ds := xd) rfl rfl (HU5.out.keeps (by repeat (first | with_reducible assumption | with_reducible exact Keeps.refl _ _ | with_reducible refine Keeps.drew ?_ | with_reducible refine Keeps.drewN ?_ _ | with_reducible refine Keeps.alloc ?_ _ | with_reducible refine Keeps.setCell ?_ ?_ _ | omega | focus (simp; done) | focus (simp; omega)))) (by omega) ?hA ?hcc ?hff (hK' _ _ (step_last (by decide) (lexO_done ?_)))
                          case hA =>
                            intro h
                            have : 0 < xd.length := List.length_pos_iff.2 h
                            rw [← hA4, if_neg (by omega)]
                          case hcc =>
                            intro i hi
                            obtain ⟨y, hy⟩ := HA5.out.cell (i := j + 5 + i) (by have := HXL.out; omega)
                            rw [World.cell?_drew, Nat.add_assoc, hy]
                            rfl
                          case hff => exact fun i _ => HA5.out.2.frD _
                          have HA6 := Lib.hid (show Ahead (w5.drew.setCells D (s + (j + 5)) (xd.map (.int .u8))) B D s ((P ++ [23, xv / 256, xv % 256, xn / 256, xn % 256]) ++ xd) xs from Ahead.put (HA5.out.keeps (Below.drew (Below.refl _ _))) (by have h1 := HPL.out; have h2 := HXL.out; omega) (by have h1 := HPL.out; omega))
                          have HB6 := Lib.hid (show Below B w (w5.drew.setCells D (s + (j + 5)) (xd.map (.int .u8))) from below_setCells (Nat.le_of_lt lBD) _ _ HB5.out.drew)
                          have r36 := (cell_setCells (show ¬ wr.heap.size = D by omega) (xd.map (.int .u8)) (s + (j + 5)) w5.drew (j := 3)).trans r3
                          clear HA5 HB5 r3 lR5 lD5 hSm HU5 hA4
                          generalize w5.drew.setCells D (s + (j + 5)) (xd.map (.int .u8)) = w6 at *
                          have lR6 : wr.heap.size < w6.heap.size := World.block_lt_of_cell? _ _ r36
                          go_wp2_with fail
                          go_roundw
                          case rel => exact ⟨k + 1, HK1.out, by go_num, by have h := congrArg List.length HNX.out; rw [h]; simp; have := HJ.out; omega, by rw [HNX.out]; exact HA6, HB6⟩
                          case measure => have := HK1.out; simp [intOf]; omega
                        · obtain rfl : nc = k := by omega
                          have hI : ¬ ((nc : Nat) : Int) < (nc : Int) := by omega
                          have hPe : P = (([] : List Int) ++ la.flatMap tB) ++ lc.flatMap tB := by rw [HP.out, List.take_of_length_le (by have := HN2.out; omega)]
                          rw [hPe] at HA HJ
                          rw [HJ.out]
                          have HB2 := HBR
                          clear HBR HP HJ hPe hI hlt jK hk
                          go_wp2_with fail
                          go_loopw [16, 24, 186] (fun off _ i wr => ∃ k : Nat, k ≤ nd ∧ i = .int .i64 (k : Int) ∧ off = .int .i64 (((((([] : List Int) ++ la.flatMap tB) ++ lc.flatMap tB) ++ (ld.take k).flatMap tB).length : Nat) : Int) ∧ Hid (Ahead wr B D s (((([] : List Int) ++ la.flatMap tB) ++ lc.flatMap tB) ++ (ld.take k).flatMap tB) xs) ∧ Hid (Below B w wr)) (fun _ _ i _ => nd - (intOf i).toNat)
                          case atStart => exact ⟨0, Nat.zero_le _, rfl, by simp, by rw [List.take_zero, List.flatMap_nil, List.append_nil]; exact HA, HB2⟩
                          case round =>
                            obtain ⟨k, hk, rfl, rfl, HA, HBR⟩ := hrel
                            obtain ⟨P, hP⟩ : ∃ P, P = ((([] : List Int) ++ la.flatMap tB) ++ lc.flatMap tB) ++ (ld.take k).flatMap tB := ⟨_, rfl⟩
                            rw [← hP] at HA ⊢
                            obtain ⟨j, hj⟩ : ∃ j, j = P.length := ⟨_, rfl⟩
                            rw [← hj]
                            have HP := Lib.hid hP
                            have HJ := Lib.hid hj
                            have jK := HA.out.1
                            rw [← hj, HXL.out] at jK
                            clear hP hj
                            have lDr : D < wr.heap.size := HA.out.2.ltD
                            have lXr : X < wr.heap.size := by omega
                            by_cases hlt : k < nd
                            · obtain ⟨gI, cI', cs, xp, hiv, hgI, -, hdk, hcs, xv, xn, xa, xb, u, rfl, rfl, hu, bv, bn, ba, bb⟩ := HRD.out.get (j := k) (by have := HN3.out; omega)
                              have hiv1 : p3 = some ⟨gI, 0, none⟩ := by simp only [Value.slice.injEq] at hiv; exact hiv.1
                              subst hiv1
                              obtain ⟨pu, cu, rfl, -⟩ := hu
                              replace hcs : ∀ (i : Nat) (x : Value), [Value.int .u8 21, .int .u16 xv, .int .u16 xn, .int .u8 xa, .int .u8 xb, .slice pu 0 cu][i]? = some x → w0.cell? ⟨gI, k * 6 + i, none⟩ = some x := hcs
                              have hgB : gI < B := by have := HB0.out; omega
                              have k0 : wr.cell? ⟨gI, k * 6, none⟩ = some (.int .u8 21) := (HBR.out.cell (p := ⟨gI, k * 6 + 0, none⟩) hgB).trans ((HBB.out.cell (p := ⟨gI, k * 6 + 0, none⟩) hgI).trans (hcs 0 _ rfl))
                              have k1 : wr.cell? ⟨gI, k * 6 + 1, none⟩ = some (.int .u16 xv) := (HBR.out.cell (p := ⟨gI, k * 6 + 1, none⟩) hgB).trans ((HBB.out.cell (p := ⟨gI, k * 6 + 1, none⟩) hgI).trans (hcs 1 _ rfl))
                              have k2 : wr.cell? ⟨gI, k * 6 + 2, none⟩ = some (.int .u16 xn) := (HBR.out.cell (p := ⟨gI, k * 6 + 2, none⟩) hgB).trans ((HBB.out.cell (p := ⟨gI, k * 6 + 2, none⟩) hgI).trans (hcs 2 _ rfl))
                              have k3 : wr.cell? ⟨gI, k * 6 + 3, none⟩ = some (.int .u8 xa) := (HBR.out.cell (p := ⟨gI, k * 6 + 3, none⟩) hgB).trans ((HBB.out.cell (p := ⟨gI, k * 6 + 3, none⟩) hgI).trans (hcs 3 _ rfl))
                              have k4 : wr.cell? ⟨gI, k * 6 + 4, none⟩ = some (.int .u8 xb) := (HBR.out.cell (p := ⟨gI, k * 6 + 4, none⟩) hgB).trans ((HBB.out.cell (p := ⟨gI, k * 6 + 4, none⟩) hgI).trans (hcs 4 _ rfl))
                              have k5 : wr.cell? ⟨gI, k * 6 + 5, none⟩ = some (.slice pu 0 cu) := (HBR.out.cell (p := ⟨gI, k * 6 + 5, none⟩) hgB).trans ((HBB.out.cell (p := ⟨gI, k * 6 + 5, none⟩) hgI).trans (hcs 5 _ rfl))
                              have lgr : gI < wr.heap.size := World.block_lt_of_cell? _ _ k0
                              have hI : ((k : Nat) : Int) < (nd : Int) := by omega
                              have HDK := Lib.hid hdk
                              have HK1 := Lib.hid hlt
                              have hroom : j + 7 ≤ K := by
                                have h2 := congrArg List.length HP.out
                                have h3 := HJ.out
                                have h4 := flat_takeT (ps := ld) (k + 1)
                                rw [flat_snocT HDK.out, List.length_append] at h4
                                have h5 : (tB ([3, 21, xv, xn, xa, xb], ([] : List Int))).length = 7 := by simp [tB] <;> omega
                                rw [h5] at h4
                                rw [← h3] at h2
                                have h6 := HKK.out
                                have h7 := HT0.out
                                have h8 := HT2.out
                                have h9 := HT3.out
                                simp only [List.length_append, List.length_nil] at h2
                                omega
                              have q0 : gI < B := hgB
                              go_wp2_with fail
                              refine (enct_a (B := B) (j := j) (K := K) (P := P) (zs := xs) (by omega) (by omega) (HA.out.keeps (show Below wr.heap.size wr _ from by have h0 := Below.refl wr.heap.size wr; exact (by repeat (first | with_reducible assumption | with_reducible refine Below.drew ?_ | with_reducible refine below_drewN' ?_ _ | with_reducible refine Below.alloc ?_ ?_ _ | with_reducible refine Below.setCell ?_ ?_ _ | with_reducible exact Nat.le_refl _ | omega | focus (simp; done) | focus (simp; omega))))) HJ.out HXL.out.symm (by omega) hcc hcm).mono ?_
                              rintro e5 w5 ⟨rfl, hA5, hB5, hK5⟩
                              have r3 : w5.cell? ⟨wr.heap.size, 3, none⟩ = some (.int .u8 xa) := hK5.cell (b := wr.heap.size) (by omega) (by go_simp)
                              have r4 : w5.cell? ⟨wr.heap.size, 4, none⟩ = some (.int .u8 xb) := hK5.cell (b := wr.heap.size) (by omega) (by go_simp)
                              have r5 : w5.cell? ⟨wr.heap.size, 5, none⟩ = some (.slice pu 0 cu) := hK5.cell (b := wr.heap.size) (by omega) (by go_simp)
                              have lR5 : wr.heap.size < w5.heap.size := World.block_lt_of_cell? _ _ r3
                              have HB5 := Lib.hid (show Below B w w5 from Below.trans (by have h0 := HBR.out; have := h0.size; exact (by repeat (first | with_reducible assumption | with_reducible refine Below.drew ?_ | with_reducible refine below_drewN' ?_ _ | with_reducible refine Below.alloc ?_ ?_ _ | with_reducible refine Below.setCell ?_ ?_ _ | with_reducible exact Nat.le_refl _ | omega | focus (simp; done) | focus (simp; omega)))) (hB5.mono (by omega)))
                              have HA5 := Lib.hid hA5
                              have lD5 : D < w5.heap.size := by omega
                              have hPl : (P ++ [21, xv / 256, xv % 256, xn / 256, xn % 256]).length = j + 5 := by rw [List.length_append, ← HJ.out]; rfl
                              have HPL := Lib.hid hPl
                              obtain ⟨dx, dc⟩ := hA5.cell (i := j + 5) (by have := HXL.out; omega)
                              obtain ⟨dx2, dc2⟩ := hA5.cell (i := j + 5 + 1) (by have := HXL.out; omega)
                              have df := hA5.2.frD (s + (j + 5))
                              have df2 := hA5.2.frD (s + (j + 5 + 1))
                              have jKi : (j : Int) + 5 < (K : Int) := by omega
                              have jKi2 : (j : Int) + 5 + 1 < (K : Int) := by omega
                              have HNX := Lib.hid (show ((([] : List Int) ++ la.flatMap tB) ++ lc.flatMap tB) ++ (ld.take (k + 1)).flatMap tB = ((P ++ [21, xv / 256, xv % 256, xn / 256, xn % 256]) ++ [xa]) ++ [xb] from by rw [flat_snocT HDK.out, ← List.append_assoc, ← HP.out]; simp [tB])
                              clear hA5 hB5 hK5 hPl
                              go_wp2_with fail
                              go_roundw
                              case rel => exact ⟨k + 1, HK1.out, by go_num, by have h := congrArg List.length HNX.out; rw [h]; simp; have := HJ.out; omega, by rw [HNX.out]; exact Lib.hid ((HA5.out.next (by have h1 := HPL.out; have h2 := HXL.out; omega) (by have h1 := HPL.out; omega) rfl).next (by have h1 := HPL.out; have h2 := HXL.out; rw [List.length_append, h1, List.length_singleton]; omega) (by have h1 := HPL.out; rw [List.length_append, h1, List.length_singleton]) rfl), Lib.hid (by have h0 := HB5.out; have := h0.size; exact (by repeat (first | with_reducible assumption | with_reducible refine Below.drew ?_ | with_reducible refine below_drewN' ?_ _ | with_reducible refine Below.alloc ?_ ?_ _ | with_reducible refine Below.setCell ?_ ?_ _ | with_reducible exact Nat.le_refl _ | omega | focus (simp; done) | focus (simp; omega))))⟩
                              case measure => have := HK1.out; simp [intOf]; omega
                            · obtain rfl : nd = k := by omega
                              have hI : ¬ ((nd : Nat) : Int) < (nd : Int) := by omega
                              have hPe : P = ((([] : List Int) ++ la.flatMap tB) ++ lc.flatMap tB) ++ ld.flatMap tB := by rw [HP.out, List.take_of_length_le (by have := HN3.out; omega)]
                              go_wp2_with fail
                              refine bodyPost_ret (v := .nilIface) (by simp only [results, Tryz.results137]; go_simp) rfl ⟨rfl, HBR.out, D, s, ?_⟩
                              have h1 := HA.out.all (by
                                have h1 := HKK.out
                                have h2 := congrArg List.length hPe
                                have h3 := HT0.out
                                have h4 := HT2.out
                                have h5 := HT3.out
                                have h6 := HXL.out
                                simp only [List.length_append, List.length_nil] at h2
                                omega)
                              rw [hPe] at h1
                              simpa using h1

theorem ser_tls {xs : Nat → List (List Int × List Int)} (hoa : ∀ p ∈ xs 0, OkP p) (hlb : xs 1 = []) (hoc : ∀ p ∈ xs 2, OkP p) (hod : ∀ p ∈ xs 3, OkP p) (h50 : ∀ i, (xs i).length ≤ 50)
    (hpos : 0 < ((xs 0).flatMap tB).length + ((xs 2).flatMap tB).length + ((xs 3).flatMap tB).length) : SerOf 137 [] ((xs 0).flatMap tB ++ ((xs 2).flatMap tB ++ (xs 3).flatMap tB)) (MIsTls xs) := by
  intro w0 w X B hI hb hB hbuf
  obtain ⟨lX, v, hcell, hrows⟩ := hI
  have x0 := hcell 0 (by omega)
  have x1 := hcell 1 (by omega)
  have x2 := hcell 2 (by omega)
  have x3 := hcell 3 (by omega)
  have r0 := hrows 0 (by omega)
  have r1 := hrows 1 (by omega)
  have r2 := hrows 2 (by omega)
  have r3 := hrows 3 (by omega)
  obtain ⟨p0, c0, e0⟩ := r0.form
  obtain ⟨p1, c1, e1⟩ := r1.form
  obtain ⟨p2, c2, e2⟩ := r2.form
  obtain ⟨p3, c3, e3⟩ := r3.form
  rw [e0] at x0 r0
  rw [e1, hlb] at x1
  rw [e2] at x2 r2
  rw [e3] at x3 r3
  exact ser_tls4 hoa hoc hod (h50 0) (h50 2) (h50 3) hpos lX x0 x1 x2 x3 r0 r2 r3 hb hB hbuf
end Go.Proofs.YtmpifdanfnebpaaGreat
