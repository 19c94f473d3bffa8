/-
  The decoder of routing6, bytes that it refuses.
-/
import Derived.Test.YtaofambmajlhmaaDrouting
import Derived.Test.YtaofambmajlhmaaLaw
namespace Go.Proofs.Ytaofambmajlhmaa
open Go Go.RowKit

set_option maxRecDepth 100000 in
set_option maxHeartbeats 1000000 in
theorem base_err1 {p : Option Addr} {n c k : Nat} {w : World} (hn : n < 2) :
    Calls Try.prog 65 #[.slice p n c, .iface 173 (.pointer (some ⟨k, 0, none⟩))] w fun e w' => (∃ b, e = .returned (.tuple #[.agg #[.slice none 0 0, .slice none 0 0, .int .u8 0, .int .u8 0, .int .i64 0], .iface 178 (.pointer (some ⟨b, 0, none⟩))])) ∧ Below w.heap.size w w' := by
  have hn1 : (n : Int) < 2 := by omega
  have m2 := m_trunc
  go_enter Try.func65, Try.ntmps65
  go_wp2_with (first | (go_at_call 126; refine trunc_c.mono ?_; rintro e w' ⟨rfl, rfl⟩) | (go_at_call 46; refine new_c.mono ?_; rintro e w' ⟨rfl, rfl⟩))
  refine bodyPost_ret (v := .tuple #[.agg #[.slice none 0 0, .slice none 0 0, .int .u8 0, .int .u8 0, .int .i64 0], .iface 178 (.pointer (some ⟨w.heap.size + 1, 0, none⟩))]) (by simp only [results, Try.results65]; go_simp) rfl ?_
  have h0 := Below.refl w.heap.size w
  exact ⟨⟨_, rfl⟩, (by repeat (first | with_reducible assumption | with_reducible refine Below.drew ?_ | with_reducible refine Below.alloc ?_ ?_ _ | with_reducible refine Below.setCell ?_ ?_ _ | with_reducible exact Nat.le_refl _ | omega | focus (simp; done) | focus (simp; omega)))⟩

set_option maxRecDepth 100000 in
set_option maxHeartbeats 1000000 in
theorem base_err2 {g o n c m k : Nat} {x0 x1 : Int} {w : World} (hn : 2 ≤ n) (h1 : 0 ≤ x1 ∧ x1 ≤ 255) (hm1 : x1 * 8 + 8 = (m : Int)) (hmn : n < m) (c0 : w.cell? ⟨g, o, none⟩ = some (.int .u8 x0)) (c1 : w.cell? ⟨g, o + 1, none⟩ = some (.int .u8 x1)) :
    Calls Try.prog 65 #[.slice (some ⟨g, o, none⟩) n c, .iface 173 (.pointer (some ⟨k, 0, none⟩))] w fun e w' => (∃ b, e = .returned (.tuple #[.agg #[.slice none 0 0, .slice none 0 0, .int .u8 0, .int .u8 0, .int .i64 0], .iface 178 (.pointer (some ⟨b, 0, none⟩))])) ∧ Below w.heap.size w w' := by
  have hn1 : ¬ (n : Int) < 2 := by omega
  have hmle : (n : Int) < (m : Int) := by omega
  have lg : g < w.heap.size := World.block_lt_of_cell? _ _ c0
  have lg1 : g < w.heap.size + 1 := by omega
  go_enter Try.func65, Try.ntmps65
  go_wp2_with (go_at_call 46; refine new_c.mono ?_; rintro e w' ⟨rfl, rfl⟩)
  refine bodyPost_ret (v := .tuple #[.agg #[.slice none 0 0, .slice none 0 0, .int .u8 0, .int .u8 0, .int .i64 0], .iface 178 (.pointer (some ⟨w.heap.size + 1, 0, none⟩))]) (by simp only [results, Try.results65]; go_simp) rfl ?_
  have h0 := Below.refl w.heap.size w
  exact ⟨⟨_, rfl⟩, (by repeat (first | with_reducible assumption | with_reducible refine Below.drew ?_ | with_reducible refine Below.alloc ?_ ?_ _ | with_reducible refine Below.setCell ?_ ?_ _ | with_reducible exact Nat.le_refl _ | omega | focus (simp; done) | focus (simp; omega)))⟩

set_option maxRecDepth 100000 in
set_option maxHeartbeats 1000000 in
theorem decode_routing_e1 {p : Option Addr} {n c : Nat} {w : World} (hn : n < 2) :
    Calls Try.prog 42 #[.string ⟨#[114, 111, 117, 116, 105, 110, 103, 54]⟩, .slice p n c] w fun e w' => (∃ t v, e = .returned (.tuple #[.nilIface, .iface t v])) ∧ Below w.heap.size w w' := by
  go_enter Try.func42, Try.ntmps42
  go_wp2_with (first | (go_at_call 46; refine new_c.mono ?_; rintro e w' ⟨rfl, rfl⟩) | (go_at_call 48; go_in))
  refine (base_err1 hn).mono ?_
  rintro e w1 ⟨⟨b, rfl⟩, hb1⟩
  have hw : Below w.heap.size w w1 := below_next (by have h0 := Below.refl w.heap.size w; exact (by repeat (first | with_reducible assumption | with_reducible refine Below.drew ?_ | with_reducible refine Below.alloc ?_ ?_ _ | with_reducible refine Below.setCell ?_ ?_ _ | with_reducible exact Nat.le_refl _ | omega | focus (simp; done) | focus (simp; omega)))) hb1 (by simp; omega)
  have HW := Lib.hid hw
  have l1 := hw.size
  clear hw hb1
  go_wp2_with fail
  refine bodyPost_ret (v := .tuple #[.nilIface, .iface 178 (.pointer (some ⟨b, 0, none⟩))]) (by simp only [results, Try.results42]; go_simp) rfl ?_
  have h0 := HW.out
  exact ⟨⟨_, _, rfl⟩, (by repeat (first | with_reducible assumption | with_reducible refine Below.drew ?_ | with_reducible refine Below.alloc ?_ ?_ _ | with_reducible refine Below.setCell ?_ ?_ _ | with_reducible exact Nat.le_refl _ | omega | focus (simp; done) | focus (simp; omega)))⟩

set_option maxRecDepth 100000 in
set_option maxHeartbeats 1000000 in
theorem decode_routing_e2 {g o n c m : Nat} {x0 x1 : Int} {w : World} (hn : 2 ≤ n) (h1 : 0 ≤ x1 ∧ x1 ≤ 255) (hm1 : x1 * 8 + 8 = (m : Int)) (hmn : n < m) (c0 : w.cell? ⟨g, o, none⟩ = some (.int .u8 x0)) (c1 : w.cell? ⟨g, o + 1, none⟩ = some (.int .u8 x1)) :
    Calls Try.prog 42 #[.string ⟨#[114, 111, 117, 116, 105, 110, 103, 54]⟩, .slice (some ⟨g, o, none⟩) n c] w fun e w' => (∃ t v, e = .returned (.tuple #[.nilIface, .iface t v])) ∧ Below w.heap.size w w' := by
  have lg : g < w.heap.size := World.block_lt_of_cell? _ _ c0
  have lg1 : g < w.heap.size + 1 := by omega
  go_enter Try.func42, Try.ntmps42
  go_wp2_with (first | (go_at_call 46; refine new_c.mono ?_; rintro e w' ⟨rfl, rfl⟩) | (go_at_call 48; go_in))
  refine (base_err2 (x0 := x0) (x1 := x1) hn h1 hm1 hmn (by go_simp) (by go_simp)).mono ?_
  rintro e w1 ⟨⟨b, rfl⟩, hb1⟩
  have hw : Below w.heap.size w w1 := below_next (by have h0 := Below.refl w.heap.size w; exact (by repeat (first | with_reducible assumption | with_reducible refine Below.drew ?_ | with_reducible refine Below.alloc ?_ ?_ _ | with_reducible refine Below.setCell ?_ ?_ _ | with_reducible exact Nat.le_refl _ | omega | focus (simp; done) | focus (simp; omega)))) hb1 (by simp; omega)
  have HW := Lib.hid hw
  have l1 := hw.size
  clear hw hb1
  go_wp2_with fail
  refine bodyPost_ret (v := .tuple #[.nilIface, .iface 178 (.pointer (some ⟨b, 0, none⟩))]) (by simp only [results, Try.results42]; go_simp) rfl ?_
  have h0 := HW.out
  exact ⟨⟨_, _, rfl⟩, (by repeat (first | with_reducible assumption | with_reducible refine Below.drew ?_ | with_reducible refine Below.alloc ?_ ?_ _ | with_reducible refine Below.setCell ?_ ?_ _ | with_reducible exact Nat.le_refl _ | omega | focus (simp; done) | focus (simp; omega)))⟩

set_option maxRecDepth 100000 in
set_option maxHeartbeats 1000000 in
theorem decode_routing_e3 {g o n c m : Nat} (x0 x1 x2 x3 x4 x5 x6 x7 : Int) {rest : List Int} {w : World} (hn : n = rest.length + 8) (hc : n ≤ c) (hm : c ≤ 9223372036854775807) (hm1 : x1 * 8 + 8 = (m : Int)) (hmn : m ≤ n) (hx2 : ¬ x2 = 0)
    (hb : ∀ z ∈ [x0, x1, x2, x3, x4, x5, x6, x7], 0 ≤ z ∧ z ≤ 255) (hr : RowAt w (fun _ => True) (some ⟨g, o, none⟩) ((x0 :: x1 :: x2 :: x3 :: x4 :: x5 :: x6 :: x7 :: rest).map (.int .u8))) :
    Calls Try.prog 42 #[.string ⟨#[114, 111, 117, 116, 105, 110, 103, 54]⟩, .slice (some ⟨g, o, none⟩) n c] w fun e w' => (∃ t v, e = .returned (.tuple #[.nilIface, .iface t v])) ∧ Below w.heap.size w w' := by
  have hnm : 8 ≤ n := by omega
  have b4 : (4 : Int) ≤ (c : Int) := by omega
  have b8 : (8 : Int) ≤ (c : Int) := by omega
  have e4 : ¬ (c = 4) := by omega
  have hmle : ¬ (n : Int) < (m : Int) := by omega
  have hmc : (m : Int) ≤ (c : Int) := by omega
  obtain ⟨hg, hcell⟩ := rowCells hr (by simp)
  have c0 := hcell 0 _ (by simp; rfl)
  have c1 := hcell 1 _ (by simp; rfl)
  have c2 := hcell 2 _ (by simp; rfl)
  have c3 := hcell 3 _ (by simp; rfl)
  rw [Nat.add_zero] at c0
  have h0 := hb x0 (by simp)
  have h1 := hb x1 (by simp)
  have h2 := hb x2 (by simp)
  have h3 := hb x3 (by simp)
  have hxb : (x2 == 0) = false := by simp [hx2]
  have HX2 := Lib.hid hx2
  clear hx2
  have HN := Lib.hid hn
  obtain ⟨Am, hAm⟩ : ∃ A, (if c = m then some (⟨g, o, none⟩ : Addr) else some ⟨g, o + m, none⟩) = A := ⟨_, rfl⟩
  obtain ⟨D8, hD8⟩ : ∃ A, (if c = 8 then some (⟨g, o, none⟩ : Addr) else some ⟨g, o + 8, none⟩) = A := ⟨_, rfl⟩
  clear hn hr hcell hb
  have lg1 : g < w.heap.size + 1 := by omega
  have lg2 : g < w.heap.size + 1 + 1 := by omega
  have lg3 : g < w.heap.size + 1 + 1 + 1 := by omega
  have lg4 : g < w.heap.size + 1 + 1 + 1 + 1 := by omega
  go_enter Try.func42, Try.ntmps42
  go_wp2_with (first | (go_at_call 46; refine new_c.mono ?_; rintro e w' ⟨rfl, rfl⟩) | (go_at_call 48; go_in))
  refine (base_c (x0 := x0) (x1 := x1) hnm hc hm h1 hm1 hmn hAm (by go_simp) (by go_simp)).mono ?_
  rintro e w' ⟨rfl, rfl⟩
  go_wp2_with fail
  refine wp_region_same [] (.q 0 (.q 1 (.q 2 (.q 3 (.q 4 (.q 5 (.q 6 (.q 7 (.q 8 (.q 9 (.l 10 (.q 11 .done) .stop))))))))))) (by kernel_rfl) (by kernel_rfl) (fun _ _ d _ _ h => by cases d <;> exact h) (by simp only [Ord.fill, nthOp]; rfl) ?_; intro hSm
  repeat
    first | refine lexO_pass rfl ?_ | (refine lexO_take2 ?_ rfl (by kernel_rfl) (by with_reducible assumption) (fun w' hS K Q' hK => ?_) ?_; rotate_left; focus (have hS2 := hS.2; clear hS; go_wp2_with fail; exact hK))
  refine lexO_do rfl (fun K hK => ?_) lexO_stop
  go_wp2_with fail
  refine step_and (by repeat (first | with_reducible assumption | with_reducible exact SameAt.refl _ | with_reducible refine SameAt.drew ?_ | with_reducible refine SameAt.alloc ?_ _ | (refine SameAt.below ?_ (by with_reducible assumption)))) (fun _ => ?_)
  repeat
    first | refine lexO_pass rfl ?_ | (refine lexO_take2 ?_ rfl (by kernel_rfl) (by with_reducible assumption) (fun w' hS K Q' hK => ?_) ?_; rotate_left; focus (have hS2 := hS.2; clear hS; go_wp2_with fail; exact hK))
  refine lexO_done ?_
  go_wp2_with (go_at_call 46; refine new_c.mono ?_; rintro e w' ⟨rfl, rfl⟩)
  refine bodyPost_ret (v := .tuple #[.nilIface, .iface 178 (.pointer (some ⟨w.heap.size + 1 + 1 + 1 + 1 + 1, 0, none⟩))]) (by simp only [results, Try.results42]; go_simp) rfl ?_
  have h0 := Below.refl w.heap.size w
  exact ⟨⟨_, _, rfl⟩, (by repeat (first | with_reducible assumption | with_reducible refine Below.drew ?_ | with_reducible refine Below.alloc ?_ ?_ _ | with_reducible refine Below.setCell ?_ ?_ _ | with_reducible exact Nat.le_refl _ | omega | focus (simp; done) | focus (simp; omega)))⟩

set_option maxRecDepth 100000 in
set_option maxHeartbeats 1000000 in
theorem decode_routing_e4 {g o n c m : Nat} (x0 x1 x2 x3 x4 x5 x6 x7 : Int) {rest : List Int} {w : World} (hn : n = rest.length + 8) (hc : n ≤ c) (hm : c ≤ 9223372036854775807) (hm1 : x1 * 8 + 8 = (m : Int)) (hmn : m ≤ n) (hx2 : x2 = 0) (hx1 : ¬ x1 % 2 = 0)
    (hb : ∀ z ∈ [x0, x1, x2, x3, x4, x5, x6, x7], 0 ≤ z ∧ z ≤ 255) (hr : RowAt w (fun _ => True) (some ⟨g, o, none⟩) ((x0 :: x1 :: x2 :: x3 :: x4 :: x5 :: x6 :: x7 :: rest).map (.int .u8))) :
    Calls Try.prog 42 #[.string ⟨#[114, 111, 117, 116, 105, 110, 103, 54]⟩, .slice (some ⟨g, o, none⟩) n c] w fun e w' => (∃ t v, e = .returned (.tuple #[.nilIface, .iface t v])) ∧ Below w.heap.size w w' := by
  have hnm : 8 ≤ n := by omega
  have b4 : (4 : Int) ≤ (c : Int) := by omega
  have b8 : (8 : Int) ≤ (c : Int) := by omega
  have e4 : ¬ (c = 4) := by omega
  have hmle : ¬ (n : Int) < (m : Int) := by omega
  have hmc : (m : Int) ≤ (c : Int) := by omega
  obtain ⟨hg, hcell⟩ := rowCells hr (by simp)
  have c0 := hcell 0 _ (by simp; rfl)
  have c1 := hcell 1 _ (by simp; rfl)
  have c2 := hcell 2 _ (by simp; rfl)
  have c3 := hcell 3 _ (by simp; rfl)
  rw [Nat.add_zero] at c0
  have h0 := hb x0 (by simp)
  have h1 := hb x1 (by simp)
  have h2 := hb x2 (by simp)
  have h3 := hb x3 (by simp)
  have hxb : (x2 == 0) = true := by simp [hx2]
  have hyb : (((m : Int) - 8) % 16 != 0) = true := by simp; omega
  have HX2 := Lib.hid hx2
  have HX1 := Lib.hid hx1
  clear hx2 hx1
  have HN := Lib.hid hn
  obtain ⟨Am, hAm⟩ : ∃ A, (if c = m then some (⟨g, o, none⟩ : Addr) else some ⟨g, o + m, none⟩) = A := ⟨_, rfl⟩
  obtain ⟨D8, hD8⟩ : ∃ A, (if c = 8 then some (⟨g, o, none⟩ : Addr) else some ⟨g, o + 8, none⟩) = A := ⟨_, rfl⟩
  clear hn hr hcell hb
  have lg1 : g < w.heap.size + 1 := by omega
  have lg2 : g < w.heap.size + 1 + 1 := by omega
  have lg3 : g < w.heap.size + 1 + 1 + 1 := by omega
  have lg4 : g < w.heap.size + 1 + 1 + 1 + 1 := by omega
  go_enter Try.func42, Try.ntmps42
  go_wp2_with (first | (go_at_call 46; refine new_c.mono ?_; rintro e w' ⟨rfl, rfl⟩) | (go_at_call 48; go_in))
  refine (base_c (x0 := x0) (x1 := x1) hnm hc hm h1 hm1 hmn hAm (by go_simp) (by go_simp)).mono ?_
  rintro e w' ⟨rfl, rfl⟩
  go_wp2_with fail
  refine wp_region_same [] (.q 0 (.q 1 (.q 2 (.q 3 (.q 4 (.q 5 (.q 6 (.q 7 (.q 8 (.q 9 (.l 10 (.q 11 .done) .stop))))))))))) (by kernel_rfl) (by kernel_rfl) (fun _ _ d _ _ h => by cases d <;> exact h) (by simp only [Ord.fill, nthOp]; rfl) ?_; intro hSm
  repeat
    first | refine lexO_pass rfl ?_ | (refine lexO_take2 ?_ rfl (by kernel_rfl) (by with_reducible assumption) (fun w' hS K Q' hK => ?_) ?_; rotate_left; focus (have hS2 := hS.2; clear hS; go_wp2_with fail; exact hK))
  refine lexO_do rfl (fun K hK => ?_) lexO_stop
  go_wp2_with fail
  refine step_and (by repeat (first | with_reducible assumption | with_reducible exact SameAt.refl _ | with_reducible refine SameAt.drew ?_ | with_reducible refine SameAt.alloc ?_ _ | (refine SameAt.below ?_ (by with_reducible assumption)))) (fun _ => ?_)
  repeat
    first | refine lexO_pass rfl ?_ | (refine lexO_take2 ?_ rfl (by kernel_rfl) (by with_reducible assumption) (fun w' hS K Q' hK => ?_) ?_; rotate_left; focus (have hS2 := hS.2; clear hS; go_wp2_with fail; exact hK))
  refine lexO_done ?_
  go_wp2_with (go_at_call 46; refine new_c.mono ?_; rintro e w' ⟨rfl, rfl⟩)
  refine bodyPost_ret (v := .tuple #[.nilIface, .iface 178 (.pointer (some ⟨w.heap.size + 1 + 1 + 1 + 1 + 1, 0, none⟩))]) (by simp only [results, Try.results42]; go_simp) rfl ?_
  have h0 := Below.refl w.heap.size w
  exact ⟨⟨_, _, rfl⟩, (by repeat (first | with_reducible assumption | with_reducible refine Below.drew ?_ | with_reducible refine Below.alloc ?_ ?_ _ | with_reducible refine Below.setCell ?_ ?_ _ | with_reducible exact Nat.le_refl _ | omega | focus (simp; done) | focus (simp; omega)))⟩

/-- The data of the bytes. -/
def dRouting : List Int → Option Lay
  | x0 :: x1 :: x2 :: x3 :: x4 :: x5 :: x6 :: x7 :: rest => if x2 = 0 ∧ x1 % 2 = 0 ∧ x1 * 8 + 8 ≤ (x0 :: x1 :: x2 :: x3 :: x4 :: x5 :: x6 :: x7 :: rest).length then
      some ⟨[x0, x1, ((16 * (x1 / 2).toNat + 8 : Nat) : Int), x2, x3], [[x4, x5, x6, x7]], (List.range (x1 / 2).toNat).map (fun k => (([] : List Int), ((x0 :: x1 :: x2 :: x3 :: x4 :: x5 :: x6 :: x7 :: rest).drop (8 + 16 * k)).take 16)), (x0 :: x1 :: x2 :: x3 :: x4 :: x5 :: x6 :: x7 :: rest).drop (16 * (x1 / 2).toNat + 8)⟩ else none
  | _ => none

theorem dRouting_short {bs : List Int} (h : bs.length < 8) : dRouting bs = none := by
  unfold dRouting
  split
  · simp at h
    omega
  · rfl
theorem dRouting_no {x0 x1 x2 x3 x4 x5 x6 x7 : Int} {rest : List Int} (h : ¬ (x2 = 0 ∧ x1 % 2 = 0 ∧ x1 * 8 + 8 ≤ (x0 :: x1 :: x2 :: x3 :: x4 :: x5 :: x6 :: x7 :: rest).length)) : dRouting (x0 :: x1 :: x2 :: x3 :: x4 :: x5 :: x6 :: x7 :: rest) = none := by
  unfold dRouting
  exact if_neg h
theorem dRouting_yes {x0 x1 x2 x3 x4 x5 x6 x7 : Int} {rest : List Int} {q m : Nat} (h : x2 = 0 ∧ x1 % 2 = 0 ∧ x1 * 8 + 8 ≤ (x0 :: x1 :: x2 :: x3 :: x4 :: x5 :: x6 :: x7 :: rest).length) (hq : x1 = 2 * (q : Int)) (hm : m = 16 * q + 8) :
    dRouting (x0 :: x1 :: x2 :: x3 :: x4 :: x5 :: x6 :: x7 :: rest) = some ⟨[x0, x1, (m : Int), x2, x3], [[x4, x5, x6, x7]], (List.range q).map (fun k => (([] : List Int), ((x0 :: x1 :: x2 :: x3 :: x4 :: x5 :: x6 :: x7 :: rest).drop (8 + 16 * k)).take 16)), (x0 :: x1 :: x2 :: x3 :: x4 :: x5 :: x6 :: x7 :: rest).drop m⟩ := by
  have e : (x1 / 2).toNat = q := by omega
  subst hm
  unfold dRouting
  exact (if_pos h).trans (by rw [e])
theorem long8 {bs : List Int} (h : 8 ≤ bs.length) : ∃ x0 x1 x2 x3 x4 x5 x6 x7 rest, bs = x0 :: x1 :: x2 :: x3 :: x4 :: x5 :: x6 :: x7 :: rest := by
  match bs, h with
  | x0 :: x1 :: x2 :: x3 :: x4 :: x5 :: x6 :: x7 :: rest, _ => exact ⟨_, _, _, _, _, _, _, _, _, rfl⟩

theorem decOf_routing {bs : List Int} (hb : ∀ z ∈ bs, 0 ≤ z ∧ z ≤ 255) : DecOf (.string ⟨#[114, 111, 117, 116, 105, 110, 103, 54]⟩) bs (dRouting bs) 73 IsRouting := by
  intro v w h
  obtain ⟨p, c, rfl, hnc, hc, hp, hr⟩ := h
  rcases Nat.lt_or_ge bs.length 8 with h8 | h8
  · rw [dRouting_short h8]
    rcases Nat.lt_or_ge bs.length 2 with h2 | h2
    · exact (decode_routing_e1 h2).mono fun e w' h => ⟨h.2, .inl ⟨rfl, h.1⟩⟩
    · match bs, h2 with
      | x0 :: x1 :: rest, h2 =>
        rcases hr with h | ⟨b, o, rfl, g1, g2, g3⟩
        · simp at h
        · have h1 := hb x1 (by simp)
          have c0 := g3 0 _ (by simp; rfl)
          rw [Nat.add_zero] at c0
          exact (decode_routing_e2 (m := (x1 * 8 + 8).toNat) h2 h1 (by omega) (by simp only [List.length_cons] at h8 ⊢; omega) c0 (g3 1 _ (by simp))).mono fun e w' h => ⟨h.2, .inl ⟨rfl, h.1⟩⟩
  · obtain ⟨x0, x1, x2, x3, x4, x5, x6, x7, rest, rfl⟩ := long8 h8
    rcases hr with h | ⟨b, o, rfl, g1, g2, g3⟩
    · simp at h
    · have h1 := hb x1 (by simp)
      have hb' : ∀ z ∈ [x0, x1, x2, x3, x4, x5, x6, x7], 0 ≤ z ∧ z ≤ 255 := fun z hz => hb z (List.mem_append_left rest hz)
      have hr' : RowAt w (fun _ => True) (some ⟨b, o, none⟩) ((x0 :: x1 :: x2 :: x3 :: x4 :: x5 :: x6 :: x7 :: rest).map (.int .u8)) := .inr ⟨b, o, rfl, g1, g2, g3⟩
      by_cases hm : x1 * 8 + 8 ≤ ((x0 :: x1 :: x2 :: x3 :: x4 :: x5 :: x6 :: x7 :: rest).length : Int)
      · by_cases hx2 : x2 = 0
        · by_cases hx1 : x1 % 2 = 0
          · rw [dRouting_yes (q := (x1 / 2).toNat) ⟨hx2, hx1, hm⟩ (by omega) rfl]
            refine (decode_routing_yes x0 x1 x2 x3 x4 x5 x6 x7 (q := (x1 / 2).toNat) (rest := rest) (by simp) hnc hc (by omega) rfl (by simp only [List.length_cons] at hm ⊢; omega) hx2 hb' hr').mono ?_
            rintro e w' ⟨X, pl, he, hi, hb⟩
            exact ⟨hb, .inr ⟨_, X, pl, rfl, he, hi⟩⟩
          · rw [dRouting_no (fun h => hx1 h.2.1)]
            exact (decode_routing_e4 x0 x1 x2 x3 x4 x5 x6 x7 (rest := rest) (m := (x1 * 8 + 8).toNat) (by simp) hnc hc (by omega) (by simp only [List.length_cons] at hm ⊢; omega) hx2 hx1 hb' hr').mono fun e w' h => ⟨h.2, .inl ⟨rfl, h.1⟩⟩
        · rw [dRouting_no (fun h => hx2 h.1)]
          exact (decode_routing_e3 x0 x1 x2 x3 x4 x5 x6 x7 (rest := rest) (m := (x1 * 8 + 8).toNat) (by simp) hnc hc (by omega) (by simp only [List.length_cons] at hm ⊢; omega) hx2 hb' hr').mono fun e w' h => ⟨h.2, .inl ⟨rfl, h.1⟩⟩
      · rw [dRouting_no (fun h => hm h.2.2)]
        have c0 := g3 0 _ (by simp; rfl)
        rw [Nat.add_zero] at c0
        exact (decode_routing_e2 (m := (x1 * 8 + 8).toNat) (by simp) h1 (by omega) (by simp only [List.length_cons] at hm ⊢; omega) c0 (g3 1 _ (by simp))).mono fun e w' h => ⟨h.2, .inl ⟨rfl, h.1⟩⟩
end Go.Proofs.Ytaofambmajlhmaa
