/-
  impl.taker: numbers, truths, bytes of a layer, one by one.
-/
import Derived.Test.YtmpifdanfnebpaaGreatVoc
import Derived.Test.YtmpifdanfnebpaaGreatDec
namespace Go.Proofs.YtmpifdanfnebpaaGreat
open Go Go.RowKit

theorem drewN_setCell (w : World) (a b : Nat) (p : Addr) (v : Value) : (w.setCell p v).drewN (a + b) = ((w.drewN a).setCell p v).drewN b := by
  show World.mk .. = World.mk ..
  simp [World.drewN, World.setCell, Nat.add_assoc]

/-- What is known of the numbers of a layer. -/
theorem SN.cells {w : World} {ok : Nat → Prop} {v : Value} {ns : List Int} (h : SN w ok v ns) (hn : ns ≠ []) :
    ∃ b o c, v = .slice (some ⟨b, o, none⟩) ns.length c ∧ b < w.heap.size ∧ ∀ i x, ns[i]? = some x → w.cell? ⟨b, o + i, none⟩ = some (.int .u64 x) := by
  obtain ⟨p, c, rfl, -, -, -, hr⟩ := h
  rcases hr with h0 | ⟨b, o, rfl, hb, hl, hc⟩
  · exact absurd (by simpa using h0) hn
  · exact ⟨b, o, c, rfl, hl, fun i x hx => hc i _ (by simp [hx])⟩
theorem SD.cells {w : World} {ok : Nat → Prop} {v : Value} {ds : List (List Int)} (h : SD w ok v ds) (hn : ds ≠ []) :
    ∃ b o c, v = .slice (some ⟨b, o, none⟩) ds.length c ∧ b < w.heap.size ∧ ∀ i d, ds[i]? = some d → ∃ u, w.cell? ⟨b, o + i, none⟩ = some u ∧ SB w ok u d := by
  obtain ⟨vs, h1, ⟨p, c, rfl, -, -, -, hr⟩, h3⟩ := h
  rcases hr with rfl | ⟨b, o, rfl, hb, hl, hc⟩
  · exact absurd (List.eq_nil_of_length_eq_zero (by simpa using h1.symm)) hn
  · refine ⟨b, o, c, rfl, hl, fun i d hd => ?_⟩
    have hi := (List.getElem?_eq_some_iff.1 hd).1
    have hv : vs[i]? = some (vs[i]'(by omega)) := by simp
    exact ⟨_, hc i _ hv, h3 i _ d hv hd⟩

set_option maxHeartbeats 1000000 in
theorem num1_c {C n m c b o : Nat} {N x : Int} {w : World} (c0 : w.cell? ⟨C, 0, none⟩ = some (.slice (some ⟨b, o, none⟩) m c)) (c4 : w.cell? ⟨C, 4, none⟩ = some (.int .i64 N))
    (f4 : w.frozen? ⟨C, 4, none⟩ = false) (hN : N = (n : Int)) (hx : w.cell? ⟨b, o + n, none⟩ = some (.int .u64 x)) (hn : n < m) (hm : m ≤ 1000) (h : 0 ≤ x ∧ x ≤ 1) (hbC : ¬ b = C) :
    Calls Tryz.prog 27 #[.pointer (some ⟨C, 0, none⟩), .int .i64 1] w fun e w' => e = .returned (.int .u64 x) ∧ ∃ q, (w.setCell ⟨C, 4, none⟩ (.int .i64 (N + 1))).drewN q = w' := by
  subst hN
  have hlt : ¬ ((m : Int) ≤ (n : Int)) := by omega
  have hd : decide (m ≤ n) = false := by simp; omega
  have hq : (x / 2 != 0) = false := by rw [show x / 2 = 0 by omega]; rfl
  go_enter Tryz.func27, Tryz.ntmps27
  go_wp2_with fail
  go_quiet (fail)
  go_wp2_with fail
  go_quiet (fail)
  go_wp2_with fail
  go_ret
  exact ⟨rfl, _, drewN_setCell _ _ _ _ _⟩

set_option maxHeartbeats 1000000 in
theorem num8_c {C n m c b o : Nat} {N x : Int} {w : World} (c0 : w.cell? ⟨C, 0, none⟩ = some (.slice (some ⟨b, o, none⟩) m c)) (c4 : w.cell? ⟨C, 4, none⟩ = some (.int .i64 N))
    (f4 : w.frozen? ⟨C, 4, none⟩ = false) (hN : N = (n : Int)) (hx : w.cell? ⟨b, o + n, none⟩ = some (.int .u64 x)) (hn : n < m) (hm : m ≤ 1000) (h : 0 ≤ x ∧ x ≤ 255) (hbC : ¬ b = C) :
    Calls Tryz.prog 27 #[.pointer (some ⟨C, 0, none⟩), .int .i64 8] w fun e w' => e = .returned (.int .u64 x) ∧ ∃ q, (w.setCell ⟨C, 4, none⟩ (.int .i64 (N + 1))).drewN q = w' := by
  subst hN
  have hlt : ¬ ((m : Int) ≤ (n : Int)) := by omega
  have hd : decide (m ≤ n) = false := by simp; omega
  have hq : (x / 256 != 0) = false := by rw [show x / 256 = 0 by omega]; rfl
  go_enter Tryz.func27, Tryz.ntmps27
  go_wp2_with fail
  go_quiet (fail)
  go_wp2_with fail
  go_quiet (fail)
  go_wp2_with fail
  go_ret
  exact ⟨rfl, _, drewN_setCell _ _ _ _ _⟩

set_option maxHeartbeats 1000000 in
theorem num16_c {C n m c b o : Nat} {N x : Int} {w : World} (c0 : w.cell? ⟨C, 0, none⟩ = some (.slice (some ⟨b, o, none⟩) m c)) (c4 : w.cell? ⟨C, 4, none⟩ = some (.int .i64 N))
    (f4 : w.frozen? ⟨C, 4, none⟩ = false) (hN : N = (n : Int)) (hx : w.cell? ⟨b, o + n, none⟩ = some (.int .u64 x)) (hn : n < m) (hm : m ≤ 1000) (h : 0 ≤ x ∧ x ≤ 65535) (hbC : ¬ b = C) :
    Calls Tryz.prog 27 #[.pointer (some ⟨C, 0, none⟩), .int .i64 16] w fun e w' => e = .returned (.int .u64 x) ∧ ∃ q, (w.setCell ⟨C, 4, none⟩ (.int .i64 (N + 1))).drewN q = w' := by
  subst hN
  have hlt : ¬ ((m : Int) ≤ (n : Int)) := by omega
  have hd : decide (m ≤ n) = false := by simp; omega
  have hq : (x / 65536 != 0) = false := by rw [show x / 65536 = 0 by omega]; rfl
  go_enter Tryz.func27, Tryz.ntmps27
  go_wp2_with fail
  go_quiet (fail)
  go_wp2_with fail
  go_quiet (fail)
  go_wp2_with fail
  go_ret
  exact ⟨rfl, _, drewN_setCell _ _ _ _ _⟩

set_option maxHeartbeats 1000000 in
theorem num32_c {C n m c b o : Nat} {N x : Int} {w : World} (c0 : w.cell? ⟨C, 0, none⟩ = some (.slice (some ⟨b, o, none⟩) m c)) (c4 : w.cell? ⟨C, 4, none⟩ = some (.int .i64 N))
    (f4 : w.frozen? ⟨C, 4, none⟩ = false) (hN : N = (n : Int)) (hx : w.cell? ⟨b, o + n, none⟩ = some (.int .u64 x)) (hn : n < m) (hm : m ≤ 1000) (h : 0 ≤ x ∧ x ≤ 4294967295) (hbC : ¬ b = C) :
    Calls Tryz.prog 27 #[.pointer (some ⟨C, 0, none⟩), .int .i64 32] w fun e w' => e = .returned (.int .u64 x) ∧ ∃ q, (w.setCell ⟨C, 4, none⟩ (.int .i64 (N + 1))).drewN q = w' := by
  subst hN
  have hlt : ¬ ((m : Int) ≤ (n : Int)) := by omega
  have hd : decide (m ≤ n) = false := by simp; omega
  have hq : (x / 4294967296 != 0) = false := by rw [show x / 4294967296 = 0 by omega]; rfl
  go_enter Tryz.func27, Tryz.ntmps27
  go_wp2_with fail
  go_quiet (fail)
  go_wp2_with fail
  go_quiet (fail)
  go_wp2_with fail
  go_ret
  exact ⟨rfl, _, drewN_setCell _ _ _ _ _⟩

set_option maxHeartbeats 1000000 in
theorem num64_c {C n m c b o : Nat} {N x : Int} {w : World} (c0 : w.cell? ⟨C, 0, none⟩ = some (.slice (some ⟨b, o, none⟩) m c)) (c4 : w.cell? ⟨C, 4, none⟩ = some (.int .i64 N))
    (f4 : w.frozen? ⟨C, 4, none⟩ = false) (hN : N = (n : Int)) (hx : w.cell? ⟨b, o + n, none⟩ = some (.int .u64 x)) (hn : n < m) (hm : m ≤ 1000) (hbC : ¬ b = C) :
    Calls Tryz.prog 27 #[.pointer (some ⟨C, 0, none⟩), .int .i64 64] w fun e w' => e = .returned (.int .u64 x) ∧ ∃ q, (w.setCell ⟨C, 4, none⟩ (.int .i64 (N + 1))).drewN q = w' := by
  subst hN
  have hlt : ¬ ((m : Int) ≤ (n : Int)) := by omega
  have hd : decide (m ≤ n) = false := by simp; omega
  go_enter Tryz.func27, Tryz.ntmps27
  go_wp2_with fail
  go_quiet (fail)
  go_wp2_with fail
  go_quiet (fail)
  go_wp2_with fail
  go_ret
  exact ⟨rfl, _, drewN_setCell _ _ _ _ _⟩

theorem b01_eq1 (t : Bool) : (b01 t == 1) = t := by cases t <;> rfl
theorem b01_is1 (t : Bool) : decide (b01 t = 1) = t := by cases t <;> rfl
theorem b01_bd (t : Bool) : 0 ≤ b01 t ∧ b01 t ≤ 1 := by cases t <;> simp [b01]

set_option maxHeartbeats 1000000 in
theorem truth_c {C n m c b o : Nat} {N : Int} {t : Bool} {w : World} (c0 : w.cell? ⟨C, 0, none⟩ = some (.slice (some ⟨b, o, none⟩) m c)) (c4 : w.cell? ⟨C, 4, none⟩ = some (.int .i64 N))
    (f4 : w.frozen? ⟨C, 4, none⟩ = false) (hN : N = (n : Int)) (hx : w.cell? ⟨b, o + n, none⟩ = some (.int .u64 (b01 t))) (hn : n < m) (hm : m ≤ 1000) (hbC : ¬ b = C) :
    Calls Tryz.prog 30 #[.pointer (some ⟨C, 0, none⟩)] w fun e w' => e = .returned (.bool t) ∧ ∃ q, (w.setCell ⟨C, 4, none⟩ (.int .i64 (N + 1))).drewN q = w' := by
  subst hN
  have e1 := b01_eq1 t
  have e2 := b01_is1 t
  go_enter Tryz.func30, Tryz.ntmps30
  go_wp2_with (go_at_call 27; refine (num1_c c0 c4 f4 rfl hx hn hm (b01_bd t) hbC).mono ?_; rintro e w' ⟨rfl, q, rfl⟩)
  go_ret
  exact ⟨rfl, _, rfl⟩

set_option maxHeartbeats 1000000 in
theorem bytes_c {C n m c b o : Nat} {N : Int} {u : Value} {bs : List Int} {w : World} (lC : C < w.heap.size) (lb : b < w.heap.size) (c1 : w.cell? ⟨C, 1, none⟩ = some (.slice (some ⟨b, o, none⟩) m c)) (c5 : w.cell? ⟨C, 5, none⟩ = some (.int .i64 N))
    (f5 : w.frozen? ⟨C, 5, none⟩ = false) (hN : N = (n : Int)) (hx : w.cell? ⟨b, o + n, none⟩ = some u) (hu : SB w (fun k => k ≠ C) u bs) (hn : n < m) (hm : m ≤ 1000) (hl : bs.length ≤ 2000) (hbC : ¬ b = C) :
    Calls Tryz.prog 28 #[.pointer (some ⟨C, 0, none⟩)] w fun e w' => ∃ p cp, e = .returned (.slice p bs.length cp) ∧ SB w' (fun k => w.heap.size ≤ k) (.slice p bs.length cp) bs ∧
      Below w.heap.size (w.setCell ⟨C, 5, none⟩ (.int .i64 (N + 1))) w' := by
  subst hN
  have hlt : ¬ ((m : Int) ≤ (n : Int)) := by omega
  have hd : decide (m ≤ n) = false := by simp; omega
  have HU := Lib.hid hu
  obtain ⟨pu, cu, rfl, _⟩ := hu
  go_enter Tryz.func28, Tryz.ntmps28
  go_wp2_with fail
  go_quiet (fail)
  go_wp2_with fail
  refine wp_region_same [] (.q 0 (.q 1 (.q 2 (.q 3 (.q 4 (.q 5 (.q 6 (.q 7 (.q 8 (.q 9 (.q 10 (.q 11 (.l 12 (.q 13 .done) .stop))))))))))))) (by kernel_rfl) (by kernel_rfl) (fun _ _ d _ _ h => by cases d <;> exact h) (by simp only [Ord.fill, nthOp]; rfl) ?_; intro hSm
  repeat
    first | refine lexO_pass rfl ?_ | (refine lexO_take2 ?_ rfl (by kernel_rfl) (by with_reducible assumption) (fun w' hS K Q' hK => ?_) ?_; rotate_left; focus (have hS2 := hS.2; clear hS; go_wp2_with fail; exact hK))
  refine lexO_do rfl (fun K hK => ?_) lexO_stop
  go_wp2_with (go_at_call 32; refine (clone_c (HU.out.keeps ((Keeps.refl _ _).drewN _ |>.setCell (by simp) _ |>.drew)) (by omega)).mono ?_; rintro e1 w1 ⟨p, cp, rfl, hp, hb1⟩; have HP := Lib.hid hp)
  refine step_and (by repeat (first | with_reducible assumption | with_reducible exact SameAt.refl _ | with_reducible refine SameAt.drew ?_ | with_reducible refine SameAt.drewN ?_ _ | with_reducible refine SameAt.alloc ?_ _ | (refine SameAt.below ?_ (by with_reducible assumption)))) (fun _ => ?_)
  repeat
    first | refine lexO_pass rfl ?_ | (refine lexO_take2 ?_ rfl (by kernel_rfl) (by with_reducible assumption) (fun w' hS K Q' hK => ?_) ?_; rotate_left; focus (have hS2 := hS.2; clear hS; go_wp2_with fail; exact hK))
  refine lexO_done ?_
  go_wp2_with fail
  go_ret
  refine ⟨_, _, rfl, HP.out.imp (fun b _ hb => by simpa using hb), ?_⟩
  refine Below.trans (b := _) ?_ (hb1.mono (by simp))
  exact ⟨rfl, rfl, rfl, Nat.le_refl _, fun _ _ => rfl⟩

set_option maxHeartbeats 1000000 in
theorem took_c {C n1 n2 n3 m1 m2 m3 : Nat} {p1 p2 p3 : Option Addr} {N1 N2 : Int} {ls : Bool} {w : World} (c0 : w.cell? ⟨C, 0, none⟩ = some (.slice p1 n1 m1)) (c1 : w.cell? ⟨C, 1, none⟩ = some (.slice p2 n2 m2)) (c2 : w.cell? ⟨C, 2, none⟩ = some (.slice p3 n3 m3))
    (c4 : w.cell? ⟨C, 4, none⟩ = some (.int .i64 N1)) (c5 : w.cell? ⟨C, 5, none⟩ = some (.int .i64 N2)) (c6 : w.cell? ⟨C, 6, none⟩ = some (.bool false)) (c7 : w.cell? ⟨C, 7, none⟩ = some (.bool ls)) (h1 : N1 = (n1 : Int)) (h2 : N2 = (n2 : Int)) (h3 : ls = true ∨ n3 = 0) :
    Calls Tryz.prog 33 #[.pointer (some ⟨C, 0, none⟩)] w fun e w' => e = .returned (.bool true) ∧ ∃ q, w.drewN q = w' := by
  subst h1 h2
  go_enter Tryz.func33, Tryz.ntmps33
  cases ls with
  | true =>
    go_wp2_with fail
    go_quiet (fail)
    go_wp2_with fail
    go_ret
    exact ⟨rfl, _, rfl⟩
  | false =>
    obtain rfl : n3 = 0 := by rcases h3 with h | h; cases h; exact h
    go_wp2_with fail
    go_quiet (fail)
    go_wp2_with fail
    go_ret
    exact ⟨rfl, _, rfl⟩
end Go.Proofs.YtmpifdanfnebpaaGreat
