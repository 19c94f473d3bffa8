/-
  The sources of a question of MLD's second version are written ahead of what the buffer holds.
-/
import Derived.Test.YtmpifdanfnebpaaGreatWmld
namespace Go.Proofs.YtmpifdanfnebpaaGreat
open Go Go.RowKit

theorem Holds.setw {w : World} {B D s : Nat} {bs : List Int} (h : Holds w B D s bs) {i : Nat} (hi : i < bs.length) {k : Nat} (hk : k = s + i) {x : Int} {v : Value} (hv : v = .int .u8 x) : Holds (w.setCell ⟨D, k, none⟩ v) B D s (bs.set i x) := by
  subst hv
  exact h.set hi hk x
theorem drop_step {ips : List (List Int)} {n k : Nat} (hn : n = ips.length) (hk : k < n) {d : List Int} (hd : ips[n - 1 - k]? = some d) : d ++ (ips.drop (n - k)).flatten = (ips.drop (n - (k + 1))).flatten := by
  subst hn
  have hlt : ips.length - 1 - k < ips.length := by omega
  have e : ips.drop (ips.length - (k + 1)) = d :: ips.drop (ips.length - k) := by
    rw [show ips.length - (k + 1) = ips.length - 1 - k by omega, List.drop_eq_getElem_cons hlt, show ips.length - 1 - k + 1 = ips.length - k by omega]
    rw [List.getElem?_eq_getElem hlt] at hd
    rw [Option.some.inj hd]
  rw [e, List.flatten_cons]

/-- Sixteen bytes at the beginning of what a buffer holds are set. -/
theorem Holds.first {w : World} {B D s : Nat} {xs bs ds : List Int} (h : Holds w B D s (xs ++ bs)) (hl : xs.length = ds.length) : Holds (w.setCells D s (ds.map (.int .u8))) B D s (ds ++ bs) := by
  have := h.setCells (i := 0) (k := s) (vs := ds) rfl (by simp; omega)
  rw [List.take_zero, List.nil_append, Nat.zero_add, ← hl, List.drop_left] at this
  exact this

theorem SB.srcs {w W : World} {ok : Nat → Prop} {p : Option Addr} {n c : Nat} {ds : List Int} (h : SB w ok (.slice p n c) ds) (k : Keeps ok w W) : ∀ b o, p = some ⟨b, o, none⟩ → ∀ j v, (ds.map (.int .u8))[j]? = some v → W.cell? ((⟨b, o, none⟩ : Addr).add j) = some v := by
  rintro b o rfl j u hu
  obtain ⟨p', c', he, -, -, -, hr⟩ := h.keeps k
  simp only [Value.slice.injEq] at he
  obtain ⟨rfl, -, -⟩ := he
  rw [addr_add]
  rcases hr with hr | ⟨b', o', hbo, -, -, hcell⟩
  · rw [hr] at hu; simp at hu
  · simp only [Option.some.injEq, Addr.mk.injEq, and_true] at hbo
    obtain ⟨rfl, rfl⟩ := hbo
    exact hcell j u hu

set_option maxRecDepth 100000 in
set_option maxHeartbeats 4000000 in
theorem srcs_c {w0 w : World} {X B : Nat} {iv : Value} {ips : List (List Int)} {pay : List Int} (lX : X < w0.heap.size) (c8 : w0.cell? ⟨X, 8, none⟩ = some iv) (hI : Rows eB w0 0 (fun _ => True) 84 iv ips) (h16 : ∀ d ∈ ips, d.length = 16) (hn : ips.length ≤ 50)
    (hl : pay.length ≤ 400) (hb0 : Below w0.heap.size w0 w) (hB : w0.heap.size ≤ B) (hbuf : Buf w B pay) :
    Calls Tryz.prog 109 #[.pointer (some ⟨X, 0, none⟩), .iface 166 (.pointer (some ⟨B, 0, none⟩)), .agg #[.bool false, .bool false]] w fun e w' =>
      e = .returned .nilIface ∧ Below B w w' ∧ Buf w' B (ips.flatten ++ pay) := by
  have mp := m_prepend
  have hf : ∀ k, ((ips.drop k).flatten).length ≤ 800 := by
    intro k
    have : ∀ l : List (List Int), (∀ d ∈ l, d.length = 16) → l.flatten.length = 16 * l.length := by
      intro l hl
      induction l with
      | nil => rfl
      | cons d l ih => rw [List.flatten_cons, List.length_append, ih (fun x hx => hl x (by simp [hx])), hl d (by simp), List.length_cons]; omega
    rw [this _ (fun d hd => h16 d (List.mem_of_mem_drop hd)), List.length_drop]
    omega
  have HF := Lib.hid hf
  have H16 := Lib.hid h16
  have HB0 := Lib.hid hb0
  have HI := Lib.hid hI
  obtain ⟨pI, cI, rfl⟩ := hI.form
  have lB : B < w.heap.size := hbuf.lt
  have lXB : X < B := by omega
  have HBUF := Lib.hid hbuf
  have c8w : w.cell? ⟨X, 8, none⟩ = _ := (hb0.cell (p := ⟨X, 8, none⟩) lX).trans c8
  obtain ⟨n, hnn⟩ : ∃ n, n = ips.length := ⟨_, rfl⟩
  rw [← hnn] at c8w
  have g1 : ¬ ((65535 : Int) < (n : Int)) := by omega
  have n50 : n ≤ 50 := by omega
  have lXw : X < w.heap.size := by omega
  have HNN := Lib.hid hnn
  have HBB := Lib.hid hB
  clear hf h16 hb0 hI hbuf c8 hnn hB
  go_enter Tryz.func109, Tryz.ntmps109
  go_wp2_with fail
  go_loopw [9, 10, 11, 12, 13, 36] (fun _ _ _ _ _ i wr => ∃ k : Nat, k ≤ n ∧ i = .int .i64 (k : Int) ∧ Hid (Buf wr B ((ips.drop (n - k)).flatten ++ pay)) ∧ Hid (Below B w wr)) (fun _ _ _ _ _ i _ => n - (intOf i).toNat)
  case atStart => exact ⟨0, Nat.zero_le _, rfl, Lib.hid (by rw [HNN.out, Nat.sub_zero, List.drop_length]; exact HBUF.out.keeps (by have h0 := Below.refl w.heap.size w; exact (by repeat (first | with_reducible assumption | with_reducible refine Below.drew ?_ | with_reducible refine below_drewN' ?_ _ | with_reducible refine Below.alloc ?_ ?_ _ | with_reducible refine Below.setCell ?_ ?_ _ | with_reducible exact Nat.le_refl _ | omega | focus (simp; done) | focus (simp; omega))))), Lib.hid (by have h0 := Below.refl B w; exact (by repeat (first | with_reducible assumption | with_reducible refine Below.drew ?_ | with_reducible refine below_drewN' ?_ _ | with_reducible refine Below.alloc ?_ ?_ _ | with_reducible refine Below.setCell ?_ ?_ _ | with_reducible exact Nat.le_refl _ | omega | focus (simp; done) | focus (simp; omega))))⟩
  case round =>
    obtain ⟨k, hk, rfl, hbr, hwr⟩ := hrel
    have q8 := (hwr.out.cell (p := ⟨X, 8, none⟩) lXB).trans c8w
    have lBr : B < wr.heap.size := hbr.out.lt
    have lXr : X < wr.heap.size := by omega
    by_cases hlt : k < n
    · have hI := HI.out
      obtain ⟨gI, cI', cs, d, hiv, hgI, -, hd, hcs, u, rfl, hu⟩ := hI.get (j := n - 1 - k) (by have := HNN.out; omega)
      simp only [Value.slice.injEq] at hiv
      obtain ⟨rfl, -, rfl⟩ := hiv
      have hdl := H16.out d (List.mem_of_getElem? hd)
      have hu' := hu
      obtain ⟨p16, c16, rfl, -⟩ := hu'
      rw [hdl] at hcs
      have hgB : gI < B := by have := HBB.out; omega
      have gr : wr.cell? ⟨gI, n - 1 - k, none⟩ = some (.slice p16 16 c16) := by
        have := hcs 0 _ rfl
        rw [show (n - 1 - k) * eB.size + 0 = n - 1 - k by simp [eB]] at this
        exact (hwr.out.cell (p := ⟨gI, n - 1 - k, none⟩) hgB).trans ((HB0.out.cell (p := ⟨gI, n - 1 - k, none⟩) hgI).trans this)
      have hkI : ((k : Nat) : Int) < (n : Int) := by omega
      have en : ((n - 1 - k : Nat) : Int) = (n : Int) - 1 - (k : Int) := by omega
      have ln : n - 1 - k < n := by omega
      have ent : ((n : Int) - 1 - (k : Int)).toNat = n - 1 - k := by omega
      have en0 : 0 ≤ (n : Int) - 1 - (k : Int) := by omega
      have en1 : (n : Int) - 1 - (k : Int) < (n : Int) := by omega
      have HU := Lib.hid (show SB w0 (fun b => b < w0.heap.size) (.slice p16 d.length c16) d from hu.imp (fun b hb _ => hb))
      have HD := Lib.hid hd
      have HK1 := Lib.hid hlt
      clear hI hu hd hcs hgI
      go_wp2_with fail
      refine (prepend_c (k := 16) (bs := (ips.drop (n - k)).flatten ++ pay) hbr.out (by omega) (by omega) (by have := HF.out (n - k); simp only [List.length_append]; omega)).mono ?_
      rintro e1 w2 ⟨D, s, c, xs, rfl, hc4, hcm, hxl, hh, hb1, hk1, hD1⟩
      have r8 := (hb1.cell (p := ⟨X, 8, none⟩) lXB).trans q8
      have gr2 := (hb1.cell (p := ⟨gI, n - 1 - k, none⟩) hgB).trans gr
      have lX2 : X < w2.heap.size := World.block_lt_of_cell? _ _ r8
      have hcI : (16 : Int) ≤ (c : Int) := by omega
      have HH := Lib.hid hh
      have H2 := Lib.hid (show Below B w w2 from hwr.out.trans hb1)
      clear hh hb1 hk1 hD1 q8 gr hc4 hcm
      have qT : ∀ (w : World) (a : Option Addr) (n c n' c' : Nat), (binOp .eql 84 (.slice a n c) (.slice none n' c')).run Tryz.prog w = .ok (.bool a.isNone) w := fun w a n c n' c' => Lib.run_eql_slice_nil w _ _ a n c n' c' Tryz.underlying84
      obtain ⟨b16, o16, rfl⟩ : ∃ b o, p16 = some ⟨b, o, none⟩ := by
        obtain ⟨p', c', he, -, -, -, hr⟩ := HU.out
        simp only [Value.slice.injEq] at he
        obtain ⟨rfl, -, -⟩ := he
        rcases hr with hr | ⟨b, o, rfl, -⟩
        · simp at hr; subst hr; simp at hdl
        · exact ⟨b, o, rfl⟩
      go_wp2_with (go_at_call 99; refine to16_c.mono ?_; rintro e w' ⟨rfl, rfl⟩)
      have WS := HU.out.srcs (W := w2) ⟨Nat.le_trans HB0.out.size H2.out.size, fun b hb _ => (H2.out.block b (by have := HBB.out; omega)).trans (HB0.out.block b hb)⟩ b16 o16 rfl
      rw [run_copy_cells (P := Tryz.prog) w2 _ _ _ 5 _ _ _ _ _ _ _ (d.map (.int .u8)) Tryz.underlying22 sz1B (by rw [List.length_map, hdl]; rfl) WS ?hdc ?hdf ?hdo]
      case hdc =>
        intro j hj
        rw [List.length_map] at hj
        rw [HH.out.row j _ (List.getElem?_eq_getElem (by simp; omega))]
        rfl
      case hdf => exact fun j _ => HH.out.frD _
      case hdo => exact ints_oneCell .u8 d
      have HH3 := Lib.hid (HH.out.first (ds := d) (by omega))
      have H3 := Lib.hid (show Below B w (w2.setCells D s (d.map (.int .u8))) from below_setCells (Nat.le_of_lt HH.out.lt) _ _ H2.out)
      clear WS r8 gr2 lX2 H2
      generalize w2.setCells D s (d.map (.int .u8)) = w3 at *
      clear HH
      go_wp2_with fail
      go_roundw
      case rel => exact ⟨k + 1, HK1.out, by go_num, Lib.hid (by rw [← drop_step HNN.out HK1.out HD.out, List.append_assoc]; exact .inr ⟨D, s, HH3.out⟩), H3⟩
      case measure => have := HK1.out; simp [intOf]; omega
    · obtain rfl : k = n := by omega
      have hkI : ¬ ((k : Nat) : Int) < (k : Int) := by omega
      go_wp2_with fail
      refine bodyPost_ret (v := .nilIface) (by simp only [results, Tryz.results109]; go_simp) rfl ⟨rfl, hwr.out, ?_⟩
      have := hbr.out
      rwa [Nat.sub_self, List.drop_zero] at this
end Go.Proofs.YtmpifdanfnebpaaGreat
