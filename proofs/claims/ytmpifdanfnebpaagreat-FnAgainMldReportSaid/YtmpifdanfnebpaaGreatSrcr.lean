/-
  The sources of a record of MLDv2 are written ahead of what the buffer holds.
-/
import Derived.Test.YtmpifdanfnebpaaGreatSrcs
import Derived.Test.YtmpifdanfnebpaaGreatApp
import Derived.Test.YtmpifdanfnebpaaGreatKoff
namespace Go.Proofs.YtmpifdanfnebpaaGreat
open Go Go.RowKit

set_option maxRecDepth 100000 in
set_option maxHeartbeats 4000000 in
theorem srcr_c {w0 w : World} {X o B : Nat} {iv : Value} {ips : List (List Int)} {pay : List Int} (lX : X < w0.heap.size) (c8 : w0.cell? ⟨X, o + 4, none⟩ = some iv) (hI : SD w0 (fun _ => True) iv ips) (h16 : ∀ d ∈ ips, d.length = 16) (hn : ips.length ≤ 50)
    (hl : pay.length ≤ 1000) (hb0 : Below w0.heap.size w0 w) (hB : w0.heap.size ≤ B) (hbuf : Buf w B pay) :
    Calls Tryz.prog 116 #[.pointer (some ⟨X, o, none⟩), .iface 166 (.pointer (some ⟨B, 0, none⟩)), .agg #[.bool false, .bool false]] w fun e w' =>
      e = .returned .nilIface ∧ Below B w w' ∧ Buf w' B (ips.flatten ++ pay) ∧ KeepsOff w w' B := by
  have mp := m_prepend
  have hf : ∀ k, ((ips.drop k).flatten).length ≤ 800 := by
    intro k
    have : ∀ l : List (List Int), (∀ d ∈ l, d.length = 16) → l.flatten.length = 16 * l.length := by
      intro l hl
      induction l with
      | nil => rfl
      | cons d l ih => rw [List.flatten_cons, List.length_append, ih (fun x hx => hl x (by simp [hx])), hl d (by simp), List.length_cons]; omega
    rw [this _ (fun d hd => h16 d (List.mem_of_mem_drop hd)), List.length_drop]
    omega
  have HF := Lib.hid hf
  have H16 := Lib.hid h16
  have HB0 := Lib.hid hb0
  have HI := Lib.hid hI
  obtain ⟨pI, cI, rfl⟩ := hI.form
  have lB : B < w.heap.size := hbuf.lt
  have lXB : X < B := by omega
  have HBUF := Lib.hid hbuf
  have c8w : w.cell? ⟨X, o + 4, none⟩ = _ := (hb0.cell (p := ⟨X, o + 4, none⟩) lX).trans c8
  obtain ⟨n, hnn⟩ : ∃ n, n = ips.length := ⟨_, rfl⟩
  rw [← hnn] at c8w
  have g1 : ¬ ((65535 : Int) < (n : Int)) := by omega
  have n50 : n ≤ 50 := by omega
  have lXw : X < w.heap.size := by omega
  have HNN := Lib.hid hnn
  have HBB := Lib.hid hB
  clear hf h16 hb0 hI hbuf c8 hnn hB
  go_enter Tryz.func116, Tryz.ntmps116
  go_wp2_with fail
  go_loopw [9, 10, 11, 12, 13, 40] (fun _ _ _ _ _ i wr => ∃ k : Nat, k ≤ n ∧ i = .int .i64 (k : Int) ∧ Hid (Buf wr B ((ips.drop (n - k)).flatten ++ pay)) ∧ Hid (Below B w wr) ∧ Hid (KeepsOff w wr B)) (fun _ _ _ _ _ i _ => n - (intOf i).toNat)
  case atStart => exact ⟨0, Nat.zero_le _, rfl, Lib.hid (by rw [HNN.out, Nat.sub_zero, List.drop_length]; exact HBUF.out.keeps (by have h0 := Below.refl w.heap.size w; exact (by repeat (first | with_reducible assumption | with_reducible refine Below.drew ?_ | with_reducible refine below_drewN' ?_ _ | with_reducible refine Below.alloc ?_ ?_ _ | with_reducible refine Below.setCell ?_ ?_ _ | with_reducible exact Nat.le_refl _ | omega | focus (simp; done) | focus (simp; omega))))), Lib.hid (by have h0 := Below.refl B w; exact (by repeat (first | with_reducible assumption | with_reducible refine Below.drew ?_ | with_reducible refine below_drewN' ?_ _ | with_reducible refine Below.alloc ?_ ?_ _ | with_reducible refine Below.setCell ?_ ?_ _ | with_reducible exact Nat.le_refl _ | omega | focus (simp; done) | focus (simp; omega)))), Lib.hid (koff_below lB (by have h0 := Below.refl w.heap.size w; exact (by repeat (first | with_reducible assumption | with_reducible refine Below.drew ?_ | with_reducible refine below_drewN' ?_ _ | with_reducible refine Below.alloc ?_ ?_ _ | with_reducible refine Below.setCell ?_ ?_ _ | with_reducible exact Nat.le_refl _ | omega | focus (simp; done) | focus (simp; omega)))))⟩
  case round =>
    obtain ⟨k, hk, rfl, hbr, hwr, hko⟩ := hrel
    have q8 := (hwr.out.cell (p := ⟨X, o + 4, none⟩) lXB).trans c8w
    have lBr : B < wr.heap.size := hbr.out.lt
    have lXr : X < wr.heap.size := by omega
    by_cases hlt : k < n
    · have hI := HI.out
      obtain ⟨gI, oI, p16, m16, c16, d, hiv, hgI, -, hd, hm, hcg, hu⟩ := hI.get (j := n - 1 - k) (by have := HNN.out; omega)
      subst hiv
      have hdl := H16.out d (List.mem_of_getElem? hd)
      obtain rfl : m16 = 16 := by omega
      have hgB : gI < B := by have := HBB.out; omega
      have gr : wr.cell? ⟨gI, oI + (n - 1 - k), none⟩ = some (.slice p16 16 c16) := (hwr.out.cell (p := ⟨gI, oI + (n - 1 - k), none⟩) hgB).trans ((HB0.out.cell (p := ⟨gI, oI + (n - 1 - k), none⟩) hgI).trans hcg)
      have hkI : ((k : Nat) : Int) < (n : Int) := by omega
      have en : ((n - 1 - k : Nat) : Int) = (n : Int) - 1 - (k : Int) := by omega
      have ln : n - 1 - k < n := by omega
      have ent : ((n : Int) - 1 - (k : Int)).toNat = n - 1 - k := by omega
      have en0 : 0 ≤ (n : Int) - 1 - (k : Int) := by omega
      have en1 : (n : Int) - 1 - (k : Int) < (n : Int) := by omega
      have HU := Lib.hid (show SB w0 (fun b => b < w0.heap.size) (.slice p16 16 c16) d from hu.imp (fun b hb _ => hb))
      have HD := Lib.hid hd
      have HK1 := Lib.hid hlt
      clear hI hu hd hm hcg hgI
      go_wp2_with fail
      refine (prepend_c (k := 16) (bs := (ips.drop (n - k)).flatten ++ pay) hbr.out (by omega) (by omega) (by have := HF.out (n - k); simp only [List.length_append]; omega)).mono ?_
      rintro e1 w2 ⟨D, s, c, xs, rfl, hc4, hcm, hxl, hh, hb1, hk1, hD1⟩
      have r8 := (hb1.cell (p := ⟨X, o + 4, none⟩) lXB).trans q8
      have gr2 := (hb1.cell (p := ⟨gI, oI + (n - 1 - k), none⟩) hgB).trans gr
      have lX2 : X < w2.heap.size := World.block_lt_of_cell? _ _ r8
      have hcI : (16 : Int) ≤ (c : Int) := by omega
      have HKO := Lib.hid (hko.out.trans (koff_holds hk1 hh (hD1.imp_right fun ⟨s0, h⟩ => ⟨s0, _, h⟩)))
      have HH := Lib.hid hh
      have H2 := Lib.hid (show Below B w w2 from hwr.out.trans hb1)
      clear hh hb1 hk1 hD1 q8 gr hc4 hcm
      have qT : ∀ (w : World) (a : Option Addr) (n c n' c' : Nat), (binOp .eql 84 (.slice a n c) (.slice none n' c')).run Tryz.prog w = .ok (.bool a.isNone) w := fun w a n c n' c' => Lib.run_eql_slice_nil w _ _ a n c n' c' Tryz.underlying84
      obtain ⟨b16, o16, rfl⟩ : ∃ b o, p16 = some ⟨b, o, none⟩ := by
        obtain ⟨p', c', he, -, -, -, hr⟩ := HU.out
        simp only [Value.slice.injEq] at he
        obtain ⟨rfl, -, -⟩ := he
        rcases hr with hr | ⟨b, o, rfl, -⟩
        · simp at hr; subst hr; simp at hdl
        · exact ⟨b, o, rfl⟩
      go_wp2_with (go_at_call 99; refine to16_c.mono ?_; rintro e w' ⟨rfl, rfl⟩)
      have WS := HU.out.srcs (W := w2) ⟨Nat.le_trans HB0.out.size H2.out.size, fun b hb _ => (H2.out.block b (by have := HBB.out; omega)).trans (HB0.out.block b hb)⟩ b16 o16 rfl
      rw [run_copy_cells (P := Tryz.prog) w2 _ _ _ 5 _ _ _ _ _ _ _ (d.map (.int .u8)) Tryz.underlying22 sz1B (by rw [List.length_map, hdl]; rfl) WS ?hdc ?hdf ?hdo]
      case hdc =>
        intro j hj
        rw [List.length_map] at hj
        rw [HH.out.row j _ (List.getElem?_eq_getElem (by simp; omega))]
        rfl
      case hdf => exact fun j _ => HH.out.frD _
      case hdo => exact ints_oneCell .u8 d
      have HH3 := Lib.hid (HH.out.first (ds := d) (by omega))
      have H3 := Lib.hid (show Below B w (w2.setCells D s (d.map (.int .u8))) from below_setCells (Nat.le_of_lt HH.out.lt) _ _ H2.out)
      have HK3 := Lib.hid (HKO.out.trans (koff_setCells HH.out s (d.map (.int .u8))))
      clear WS r8 gr2 lX2 H2 HKO
      generalize w2.setCells D s (d.map (.int .u8)) = w3 at *
      clear HH
      go_wp2_with fail
      go_roundw
      case rel => exact ⟨k + 1, HK1.out, by go_num, Lib.hid (by rw [← drop_step HNN.out HK1.out HD.out, List.append_assoc]; exact .inr ⟨D, s, HH3.out⟩), H3, HK3⟩
      case measure => have := HK1.out; simp [intOf]; omega
    · obtain rfl : k = n := by omega
      have hkI : ¬ ((k : Nat) : Int) < (k : Int) := by omega
      go_wp2_with fail
      refine bodyPost_ret (v := .nilIface) (by simp only [results, Tryz.results116]; go_simp) rfl ⟨rfl, hwr.out, ?_, hko.out⟩
      have := hbr.out
      rwa [Nat.sub_self, List.drop_zero] at this
end Go.Proofs.YtmpifdanfnebpaaGreat
