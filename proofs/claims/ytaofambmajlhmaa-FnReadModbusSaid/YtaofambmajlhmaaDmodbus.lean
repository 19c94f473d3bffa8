/-
  The decoder of modbus.
-/
import Derived.Test.YtaofambmajlhmaaRead
import Derived.Test.YtaofambmajlhmaaTo
namespace Go.Proofs.Ytaofambmajlhmaa
open Go Go.RowKit

theorem m_modbus (k : Nat) (a : Addr) (w : World) : (method (k + 1) 134 (.pointer (some a)) "DecodeFromBytes").run Try.prog w = .ok (69, .pointer (some a)) w := by kernel_rfl

set_option maxRecDepth 100000 in
set_option maxHeartbeats 1000000 in
theorem dfb_modbus {B X g o n c : Nat} {kv : Value} (x0 x1 x2 x3 x4 x5 x6 x7 x8 : Int) {rest : List Int} {w : World} (hn : n = rest.length + 9) (hc : n ≤ c) (hm : c ≤ 9223372036854775807) (hL : n ≤ 260) (hq : x4 * 256 + x5 = (n : Int) - 6)
    (hb : ∀ z ∈ [x0, x1, x2, x3, x4, x5, x6, x7, x8], 0 ≤ z ∧ z ≤ 255) (hBX : B ≤ X) (hr : RowAt w (· < B) (some ⟨g, o, none⟩) ((x0 :: x1 :: x2 :: x3 :: x4 :: x5 :: x6 :: x7 :: x8 :: rest).map (.int .u8)))
    (hX : w.heap[X]? = some (.cells #[.slice none 0 0, .slice none 0 0, .int .u16 0, .int .u16 0, .int .u16 0, .int .u8 0] 137 (0, 0))) :
    Calls Try.prog 69 #[.pointer (some ⟨X, 0, none⟩), .slice (some ⟨g, o, none⟩) n c, kv] w fun e w' =>
      e = .returned .nilIface ∧ (∃ pl, w'.cell? ⟨X, 1, none⟩ = some pl ∧ SB w' (· < B) pl (x7 :: x8 :: rest)) ∧ w'.cell? ⟨X, 2, none⟩ = some (.int .u16 (x0 * 256 + x1)) ∧ w'.cell? ⟨X, 3, none⟩ = some (.int .u16 (x2 * 256 + x3)) ∧ w'.cell? ⟨X, 4, none⟩ = some (.int .u16 (x4 * 256 + x5)) ∧ w'.cell? ⟨X, 5, none⟩ = some (.int .u8 x6) ∧ Below X w w' := by
  have hnm : 9 ≤ n := by omega
  have b2 : (2 : Int) ≤ (c : Int) := by omega
  have b4 : (4 : Int) ≤ (c : Int) := by omega
  have b6 : (6 : Int) ≤ (c : Int) := by omega
  have b7 : (7 : Int) ≤ (c : Int) := by omega
  have e2 : ¬ (c = 2) := by omega
  have e4 : ¬ (c = 4) := by omega
  have hL1 : ¬ (260 : Int) < (n : Int) := by omega
  have HN := Lib.hid hn
  clear hn
  have hP := SB.tail (n := n) (k := 7) (A := some ⟨g, o + 7, none⟩) hr (by simpa using HN.out) (by omega) hc hm (by rw [if_neg (by omega)])
  obtain ⟨hg, hcell⟩ := rowCells hr (by simp)
  have hgX : g ≠ X := by
    rcases hr with h | ⟨b, o', hp, hb, _, _⟩
    · simp at h
    · simp only [Option.some.injEq, Addr.mk.injEq, and_true] at hp
      have : g < B := hp.1 ▸ hb
      omega
  have c0 := hcell 0 _ (by simp; rfl)
  have c1 := hcell 1 _ (by simp; rfl)
  have c2 := hcell 2 _ (by simp; rfl)
  have c3 := hcell 3 _ (by simp; rfl)
  have c4 := hcell 4 _ (by simp; rfl)
  have c5 := hcell 5 _ (by simp; rfl)
  have c6 := hcell 6 _ (by simp; rfl)
  rw [Nat.add_zero] at c0
  have h0 := hb x0 (by simp)
  have h1 := hb x1 (by simp)
  have h2 := hb x2 (by simp)
  have h3 := hb x3 (by simp)
  have h4 := hb x4 (by simp)
  have h5 := hb x5 (by simp)
  have h6 := hb x6 (by simp)
  have d0 : w.cell? ⟨X, 0, none⟩ = some (.slice none 0 0) := by simp [World.cell?, hX]
  have d1 : w.cell? ⟨X, 1, none⟩ = some (.slice none 0 0) := by simp [World.cell?, hX]
  have d2 : w.cell? ⟨X, 2, none⟩ = some (.int .u16 0) := by simp [World.cell?, hX]
  have d3 : w.cell? ⟨X, 3, none⟩ = some (.int .u16 0) := by simp [World.cell?, hX]
  have d4 : w.cell? ⟨X, 4, none⟩ = some (.int .u16 0) := by simp [World.cell?, hX]
  have d5 : w.cell? ⟨X, 5, none⟩ = some (.int .u8 0) := by simp [World.cell?, hX]
  have f0 : w.frozen? ⟨X, 0, none⟩ = false := by simp [World.frozen?, hX]
  have f1 : w.frozen? ⟨X, 1, none⟩ = false := by simp [World.frozen?, hX]
  have f2 : w.frozen? ⟨X, 2, none⟩ = false := by simp [World.frozen?, hX]
  have f3 : w.frozen? ⟨X, 3, none⟩ = false := by simp [World.frozen?, hX]
  have f4 : w.frozen? ⟨X, 4, none⟩ = false := by simp [World.frozen?, hX]
  have f5 : w.frozen? ⟨X, 5, none⟩ = false := by simp [World.frozen?, hX]
  have lX : X < w.heap.size := (Array.getElem?_eq_some_iff.1 hX).1
  have lX1 : X < w.heap.size + 1 := by omega
  have lX2 : X < w.heap.size + 1 + 1 := by omega
  have lX3 : X < w.heap.size + 1 + 1 + 1 := by omega
  have lg1 : g < w.heap.size + 1 := by omega
  have lg2 : g < w.heap.size + 1 + 1 := by omega
  have HP := Lib.hid hP
  clear hP
  clear hr hcell hb hX
  go_enter Try.func69, Try.ntmps69
  go_wp2_with fail
  refine wp_region_lex (fun _ => True) [10] (.q 0 (.q 1 (.q 2 (.q 3 (.q 4 (.l 5 (.q 6 (.q 7 (.q 8 (.q 9 (.l 10 .done .stop))))) .stop)))))) (by kernel_rfl) (by kernel_rfl) (fun _ _ d _ _ h => by cases d <;> exact h) (by simp only [Ord.fill, nthOp]; rfl) trivial ?_
  repeat
    first | refine lexO_pass rfl ?_ | (refine lexO_take2 ?_ rfl (by kernel_rfl) trivial (fun w' _ K Q' hK => ?_) ?_; rotate_left; focus (go_wp2_with fail; exact hK))
  refine lexO_do rfl (fun K hK => ?_) lexO_stop
  go_wp2_with fail
  refine ⟨fun _ => trivial, ?_⟩
  repeat
    first | refine lexO_pass rfl ?_ | (refine lexO_take2 ?_ rfl (by kernel_rfl) trivial (fun w' _ K Q' hK => ?_) ?_; rotate_left; focus (go_wp2_with fail; exact hK))
  refine lexO_do rfl (fun K hK => ?_) lexO_stop
  go_wp2_with fail
  refine step_last (by decide) (lexO_done ?_)
  go_wp2_with fail
  refine wp_region_lex (fun _ => True) [7] (.q 0 (.q 1 (.q 2 (.q 3 (.l 4 (.q 5 (.q 6 (.l 7 .done .stop))) .stop))))) (by kernel_rfl) (by kernel_rfl) (fun _ _ d _ _ h => by cases d <;> exact h) (by simp only [Ord.fill, nthOp]; rfl) trivial ?_
  repeat
    first | refine lexO_pass rfl ?_ | (refine lexO_take2 ?_ rfl (by kernel_rfl) trivial (fun w' _ K Q' hK => ?_) ?_; rotate_left; focus (go_wp2_with fail; exact hK))
  refine lexO_do rfl (fun K hK => ?_) lexO_stop
  go_wp2_with (go_at_call 63; refine (u16_c x0 x1 (by omega) h0 h1 (by go_simp) (by go_simp)).mono ?_; rintro e w' ⟨rfl, rfl⟩)
  refine ⟨fun _ => trivial, ?_⟩
  repeat
    first | refine lexO_pass rfl ?_ | (refine lexO_take2 ?_ rfl (by kernel_rfl) trivial (fun w' _ K Q' hK => ?_) ?_; rotate_left; focus (go_wp2_with fail; exact hK))
  refine lexO_do rfl (fun K hK => ?_) lexO_stop
  go_wp2_with fail
  refine step_last (by decide) (lexO_done ?_)
  go_wp2_with fail
  refine wp_region_lex (fun _ => True) [7] (.q 0 (.q 1 (.q 2 (.q 3 (.l 4 (.q 5 (.q 6 (.l 7 .done .stop))) .stop))))) (by kernel_rfl) (by kernel_rfl) (fun _ _ d _ _ h => by cases d <;> exact h) (by simp only [Ord.fill, nthOp]; rfl) trivial ?_
  repeat
    first | refine lexO_pass rfl ?_ | (refine lexO_take2 ?_ rfl (by kernel_rfl) trivial (fun w' _ K Q' hK => ?_) ?_; rotate_left; focus (go_wp2_with fail; exact hK))
  refine lexO_do rfl (fun K hK => ?_) lexO_stop
  go_wp2_with (go_at_call 63; refine (u16_c x2 x3 (by omega) h2 h3 (by go_simp) (by go_simp)).mono ?_; rintro e w' ⟨rfl, rfl⟩)
  refine ⟨fun _ => trivial, ?_⟩
  repeat
    first | refine lexO_pass rfl ?_ | (refine lexO_take2 ?_ rfl (by kernel_rfl) trivial (fun w' _ K Q' hK => ?_) ?_; rotate_left; focus (go_wp2_with fail; exact hK))
  refine lexO_do rfl (fun K hK => ?_) lexO_stop
  go_wp2_with fail
  refine step_last (by decide) (lexO_done ?_)
  go_wp2_with fail
  refine wp_region_lex (fun _ => True) [7] (.q 0 (.q 1 (.q 2 (.q 3 (.l 4 (.q 5 (.q 6 (.l 7 .done .stop))) .stop))))) (by kernel_rfl) (by kernel_rfl) (fun _ _ d _ _ h => by cases d <;> exact h) (by simp only [Ord.fill, nthOp]; rfl) trivial ?_
  repeat
    first | refine lexO_pass rfl ?_ | (refine lexO_take2 ?_ rfl (by kernel_rfl) trivial (fun w' _ K Q' hK => ?_) ?_; rotate_left; focus (go_wp2_with fail; exact hK))
  refine lexO_do rfl (fun K hK => ?_) lexO_stop
  go_wp2_with (go_at_call 63; refine (u16_c x4 x5 (by omega) h4 h5 (by go_simp) (by go_simp)).mono ?_; rintro e w' ⟨rfl, rfl⟩)
  refine ⟨fun _ => trivial, ?_⟩
  repeat
    first | refine lexO_pass rfl ?_ | (refine lexO_take2 ?_ rfl (by kernel_rfl) trivial (fun w' _ K Q' hK => ?_) ?_; rotate_left; focus (go_wp2_with fail; exact hK))
  refine lexO_do rfl (fun K hK => ?_) lexO_stop
  go_wp2_with fail
  refine step_last (by decide) (lexO_done ?_)
  go_wp2_with fail
  refine wp_region_same [] (.q 0 (.q 1 (.q 2 (.q 3 (.q 4 (.q 5 (.q 6 (.q 7 (.q 8 (.l 9 (.q 10 (.q 11 (.q 12 .done))) .stop)))))))))) (by kernel_rfl) (by kernel_rfl) (fun _ _ d _ _ h => by cases d <;> exact h) (by simp only [Ord.fill, nthOp]; rfl) ?_; intro hSm
  repeat
    first | refine lexO_pass rfl ?_ | (refine lexO_take2 ?_ rfl (by kernel_rfl) (by with_reducible assumption) (fun w' hS K Q' hK => ?_) ?_; rotate_left; focus (have hS2 := hS.2; clear hS; go_wp2_with fail; exact hK))
  refine lexO_do rfl (fun K hK => ?_) lexO_stop
  go_wp2_with fail
  refine step_and (by repeat (first | with_reducible assumption | with_reducible exact SameAt.refl _ | with_reducible refine SameAt.drew ?_ | with_reducible refine SameAt.alloc ?_ _ | (refine SameAt.below ?_ (by with_reducible assumption)))) (fun _ => ?_)
  repeat
    first | refine lexO_pass rfl ?_ | (refine lexO_take2 ?_ rfl (by kernel_rfl) (by with_reducible assumption) (fun w' hS K Q' hK => ?_) ?_; rotate_left; focus (have hS2 := hS.2; clear hS; go_wp2_with fail; exact hK))
  refine lexO_done ?_
  go_wp2_with fail

  refine bodyPost_ret (v := .nilIface) (by simp only [results, Try.results69]; go_simp) rfl ⟨rfl, ⟨.slice (some ⟨g, o + 7, none⟩) (n - 7) (c - 7), by go_simp, HP.out.keeps (by repeat (first | with_reducible assumption | with_reducible exact Keeps.refl _ _ | with_reducible refine Keeps.drew ?_ | with_reducible refine Keeps.alloc ?_ _ | with_reducible refine Keeps.setCell ?_ ?_ _ | omega | focus (simp; done) | focus (simp; omega)))⟩, by go_simp, by go_simp, by go_simp, by go_simp, ?_⟩
  have h0 := Below.refl X w
  exact (by repeat (first | with_reducible assumption | with_reducible refine Below.drew ?_ | with_reducible refine Below.alloc ?_ ?_ _ | with_reducible refine Below.setCell ?_ ?_ _ | with_reducible exact Nat.le_refl _ | omega | focus (simp; done) | focus (simp; omega)))

/-- A Modbus at X. -/
def IsModbus (w : World) (X : Nat) (pl : Value) (l : Lay) : Prop :=
  ∃ a b f u pay, l = ⟨[a, b, f, u], [], [], pay⟩ ∧ w.cell? ⟨X, 1, none⟩ = some pl ∧ SB w (fun _ => True) pl pay ∧ w.cell? ⟨X, 2, none⟩ = some (.int .u16 a) ∧ w.cell? ⟨X, 3, none⟩ = some (.int .u16 b) ∧ w.cell? ⟨X, 4, none⟩ = some (.int .u16 f) ∧ w.cell? ⟨X, 5, none⟩ = some (.int .u8 u) ∧ (0 ≤ a ∧ a < 65536) ∧ (0 ≤ b ∧ b < 65536) ∧ (0 ≤ f ∧ f < 65536) ∧ (0 ≤ u ∧ u ≤ 255)

set_option maxRecDepth 100000 in
set_option maxHeartbeats 1000000 in
theorem decode_modbus {g o n c : Nat} (x0 x1 x2 x3 x4 x5 x6 x7 x8 : Int) {rest : List Int} {w : World} (hn : n = rest.length + 9) (hc : n ≤ c) (hm : c ≤ 9223372036854775807) (hL : n ≤ 260) (hq : x4 * 256 + x5 = (n : Int) - 6)
    (hb : ∀ z ∈ [x0, x1, x2, x3, x4, x5, x6, x7, x8], 0 ≤ z ∧ z ≤ 255) (hr : RowAt w (fun _ => True) (some ⟨g, o, none⟩) ((x0 :: x1 :: x2 :: x3 :: x4 :: x5 :: x6 :: x7 :: x8 :: rest).map (.int .u8))) :
    Calls Try.prog 42 #[.string ⟨#[109, 111, 100, 98, 117, 115]⟩, .slice (some ⟨g, o, none⟩) n c] w fun e w' =>
      ∃ X pl, e = .returned (.tuple #[.iface 134 (.pointer (some ⟨X, 0, none⟩)), .nilIface]) ∧ IsModbus w' X pl ⟨[x0 * 256 + x1, x2 * 256 + x3, x4 * 256 + x5, x6], [], [], x7 :: x8 :: rest⟩ ∧ Below w.heap.size w w' := by
  have m1 := m_modbus
  have m2 := m_add
  have HR := Lib.hid hr
  have HB := Lib.hid hb
  have HN := Lib.hid hn
  clear hr hb hn
  go_enter Try.func42, Try.ntmps42
  have HR1 := Lib.hid (HR.out.imp (fun b hb _ => hb))
  go_wp2_with (first | (go_at_call 46; refine new_c.mono ?_; rintro e w' ⟨rfl, rfl⟩) | (go_at_call 69; refine (dfb_modbus x0 x1 x2 x3 x4 x5 x6 x7 x8 HN.out hc hm hL hq HB.out (by omega) (HR1.out.keeps (by repeat (first | with_reducible assumption | with_reducible exact Keeps.refl _ _ | with_reducible refine Keeps.drew ?_ | with_reducible refine Keeps.alloc ?_ _ | with_reducible refine Keeps.setCell ?_ ?_ _ | omega | focus (simp; done) | focus (simp; omega)))) (by (try simp only [heap_drew]); repeat (first | (with_reducible refine heap_last ?_; focus (simp; done)) | with_reducible refine heap_past ?_))).mono ?_; rintro e w1 ⟨rfl, hp, c2, c3, c4, c5, hb1⟩; have HP := Lib.hid hp; clear hp; have k0 : w1.cell? ⟨w.heap.size, 0, none⟩ = some .nilIface := (hb1.cell (p := ⟨w.heap.size, 0, none⟩) (by simp; omega)).trans (by go_simp); have k1 : w1.frozen? ⟨w.heap.size, 0, none⟩ = false := (hb1.frozen (p := ⟨w.heap.size, 0, none⟩) (by simp; omega)).trans (by go_simp); have HB1 := Lib.hid hb1; clear hb1) | (go_at_call 125; refine (add_c k0 k1).mono ?_; rintro e w' ⟨rfl, rfl⟩) | (go_at_call 58; go_in))
  refine bodyPost_ret (v := .tuple #[.iface 134 (.pointer (some ⟨w.heap.size + 1 + 1, 0, none⟩)), .nilIface]) (by simp only [results, Try.results42]; go_simp) rfl ?_
  have hb := HB.out
  have hw : Below w.heap.size w w1 := by
    have h0 := Below.refl w.heap.size w
    refine Below.trans (b := _) ?_ (HB1.out.mono (by omega))
    exact (by repeat (first | with_reducible assumption | with_reducible refine Below.drew ?_ | with_reducible refine Below.alloc ?_ ?_ _ | with_reducible refine Below.setCell ?_ ?_ _ | with_reducible exact Nat.le_refl _ | omega | focus (simp; done) | focus (simp; omega)))
  have h0 := hb x0 (by simp)
  have h1 := hb x1 (by simp)
  have h2 := hb x2 (by simp)
  have h3 := hb x3 (by simp)
  have h4 := hb x4 (by simp)
  have h5 := hb x5 (by simp)
  have h6 := hb x6 (by simp)
  obtain ⟨pl, c1, hs⟩ := HP.out
  refine ⟨_, pl, rfl, ⟨_, _, _, _, _, rfl, by go_simp, (hs.keeps (by repeat (first | with_reducible assumption | with_reducible exact Keeps.refl _ _ | with_reducible refine Keeps.drew ?_ | with_reducible refine Keeps.alloc ?_ _ | with_reducible refine Keeps.setCell ?_ ?_ _ | omega | focus (simp; done) | focus (simp; omega)))).imp (fun _ _ _ => trivial), by go_simp, by go_simp, by go_simp, by go_simp, by omega, by omega, by omega, by omega⟩, (by repeat (first | with_reducible assumption | with_reducible refine Below.drew ?_ | with_reducible refine Below.alloc ?_ ?_ _ | with_reducible refine Below.setCell ?_ ?_ _ | with_reducible exact Nat.le_refl _ | omega | focus (simp; done) | focus (simp; omega)))⟩

set_option maxRecDepth 100000 in
set_option maxHeartbeats 1000000 in
theorem decode_modbus_short {p : Option Addr} {n c : Nat} {w : World} (hn : n < 9) :
    Calls Try.prog 42 #[.string ⟨#[109, 111, 100, 98, 117, 115]⟩, .slice p n c] w fun e w' =>
      (∃ t v, e = .returned (.tuple #[.nilIface, .iface t v])) ∧ Below w.heap.size w w' := by
  have m1 := m_modbus
  have m2 := m_trunc
  go_enter Try.func42, Try.ntmps42
  go_wp2_with (first | (go_at_call 46; refine new_c.mono ?_; rintro e w' ⟨rfl, rfl⟩) | (go_at_call 126; refine trunc_c.mono ?_; rintro e w' ⟨rfl, rfl⟩) | (go_at_call 58; go_in) | (go_at_call 69; go_in))
  refine bodyPost_ret (v := .tuple #[.nilIface, .iface 178 (.pointer (some ⟨w.heap.size + 1 + 1 + 1, 0, none⟩))]) (by simp only [results, Try.results42]; go_simp) rfl ?_
  have h0 := Below.refl w.heap.size w
  exact ⟨⟨_, _, rfl⟩, (by repeat (first | with_reducible assumption | with_reducible refine Below.drew ?_ | with_reducible refine Below.alloc ?_ ?_ _ | with_reducible refine Below.setCell ?_ ?_ _ | with_reducible exact Nat.le_refl _ | omega | focus (simp; done) | focus (simp; omega)))⟩

/-- The data of the bytes. -/
def dModbus : List Int → Option Lay
  | x0 :: x1 :: x2 :: x3 :: x4 :: x5 :: x6 :: x7 :: x8 :: rest => some ⟨[x0 * 256 + x1, x2 * 256 + x3, x4 * 256 + x5, x6], [], [], x7 :: x8 :: rest⟩
  | _ => none

/-- Of its own length, of at most 260 bytes. -/
def mbOk : List Int → Bool
  | x0 :: x1 :: x2 :: x3 :: x4 :: x5 :: x6 :: x7 :: x8 :: rest => decide ((x0 :: x1 :: x2 :: x3 :: x4 :: x5 :: x6 :: x7 :: x8 :: rest).length ≤ 260 ∧ x4 * 256 + x5 = ((x0 :: x1 :: x2 :: x3 :: x4 :: x5 :: x6 :: x7 :: x8 :: rest).length : Int) - 6)
  | _ => true
/-- What is said of the bytes. -/
def sModbus (bs : List Int) : Option (Option Lay) :=
  match bs with
  | _ :: _ :: x2 :: x3 :: _ :: _ :: _ :: _ :: _ :: _ => if mbOk bs = true ∧ x2 = 0 ∧ x3 = 0 then some (dModbus bs) else none
  | _ => some (dModbus bs)
theorem sModbus_none {x0 x1 x2 x3 x4 x5 x6 x7 x8 : Int} {rest : List Int} (h : ¬ (mbOk (x0 :: x1 :: x2 :: x3 :: x4 :: x5 :: x6 :: x7 :: x8 :: rest) = true ∧ x2 = 0 ∧ x3 = 0)) : sModbus (x0 :: x1 :: x2 :: x3 :: x4 :: x5 :: x6 :: x7 :: x8 :: rest) = none := by
  unfold sModbus
  exact if_neg h
theorem sModbus_some {x0 x1 x2 x3 x4 x5 x6 x7 x8 : Int} {rest : List Int} (h : mbOk (x0 :: x1 :: x2 :: x3 :: x4 :: x5 :: x6 :: x7 :: x8 :: rest) = true ∧ x2 = 0 ∧ x3 = 0) : sModbus (x0 :: x1 :: x2 :: x3 :: x4 :: x5 :: x6 :: x7 :: x8 :: rest) = some (dModbus (x0 :: x1 :: x2 :: x3 :: x4 :: x5 :: x6 :: x7 :: x8 :: rest)) := by
  unfold sModbus
  exact if_pos h
theorem sModbus_ok {bs : List Int} {r : Option Lay} (h : sModbus bs = some r) : r = dModbus bs ∧ mbOk bs = true := by
  unfold sModbus at h
  split at h
  · split at h
    · rename_i h1
      exact ⟨(Option.some.inj h).symm, h1.1⟩
    · cases h
  · rename_i h1
    refine ⟨(Option.some.inj h).symm, ?_⟩
    unfold mbOk
    split
    · exact absurd rfl (h1 _ _ _ _ _ _ _ _ _ _)
    · rfl

set_option maxHeartbeats 2000000 in
theorem decOf_modbus {bs : List Int} (hb : ∀ z ∈ bs, 0 ≤ z ∧ z ≤ 255) (hT : mbOk bs = true) : DecOf (.string ⟨#[109, 111, 100, 98, 117, 115]⟩) bs (dModbus bs) 134 IsModbus := by
  intro v w h
  obtain ⟨p, c, rfl, hnc, hc, hp, hr⟩ := h
  match bs, hb, hnc, hr, hT with
  | x0 :: x1 :: x2 :: x3 :: x4 :: x5 :: x6 :: x7 :: x8 :: rest, hb, hnc, hr, hT =>
    obtain ⟨hL, hq⟩ := of_decide_eq_true hT
    rcases hr with h | ⟨b, o, rfl, h1, h2, h3⟩
    · simp at h
    · refine (decode_modbus x0 x1 x2 x3 x4 x5 x6 x7 x8 (rest := rest) (by simp) hnc hc hL hq (fun z hz => hb z (List.mem_append_left rest hz)) (.inr ⟨b, o, rfl, h1, h2, h3⟩)).mono ?_
      rintro e w' ⟨X, pl, he, hi, hb⟩
      exact ⟨hb, .inr ⟨_, X, pl, rfl, he, hi⟩⟩
  | [], _, _, _, _ => exact (decode_modbus_short (by simp)).mono fun e w' h => ⟨h.2, .inl ⟨rfl, h.1⟩⟩
  | [_], _, _, _, _ => exact (decode_modbus_short (by simp)).mono fun e w' h => ⟨h.2, .inl ⟨rfl, h.1⟩⟩
  | [_, _], _, _, _, _ => exact (decode_modbus_short (by simp)).mono fun e w' h => ⟨h.2, .inl ⟨rfl, h.1⟩⟩
  | [_, _, _], _, _, _, _ => exact (decode_modbus_short (by simp)).mono fun e w' h => ⟨h.2, .inl ⟨rfl, h.1⟩⟩
  | [_, _, _, _], _, _, _, _ => exact (decode_modbus_short (by simp)).mono fun e w' h => ⟨h.2, .inl ⟨rfl, h.1⟩⟩
  | [_, _, _, _, _], _, _, _, _ => exact (decode_modbus_short (by simp)).mono fun e w' h => ⟨h.2, .inl ⟨rfl, h.1⟩⟩
  | [_, _, _, _, _, _], _, _, _, _ => exact (decode_modbus_short (by simp)).mono fun e w' h => ⟨h.2, .inl ⟨rfl, h.1⟩⟩
  | [_, _, _, _, _, _, _], _, _, _, _ => exact (decode_modbus_short (by simp)).mono fun e w' h => ⟨h.2, .inl ⟨rfl, h.1⟩⟩
  | [_, _, _, _, _, _, _, _], _, _, _, _ => exact (decode_modbus_short (by simp)).mono fun e w' h => ⟨h.2, .inl ⟨rfl, h.1⟩⟩

theorem isModbus_below {w w' : World} {X : Nat} {pl : Value} {l : Lay} (k : Below w.heap.size w w') (h : IsModbus w X pl l) : IsModbus w' X pl l := by
  obtain ⟨a, b, f, u, pay, rfl, c1, hp, c2, c3, c4, c5, b0, b1, b2, b3⟩ := h
  have hc : ∀ j u, w.cell? ⟨X, j, none⟩ = some u → w'.cell? ⟨X, j, none⟩ = some u := fun j u hu => (k.cell (p := ⟨X, j, none⟩) (World.block_lt_of_cell? _ _ hu)).trans hu
  exact ⟨a, b, f, u, pay, rfl, hc _ _ c1, hp.keeps (Keeps.of_below k), hc _ _ c2, hc _ _ c3, hc _ _ c4, hc _ _ c5, b0, b1, b2, b3⟩
theorem isModbus_pl {w : World} {X : Nat} {pl : Value} {l : Lay} (h : IsModbus w X pl l) : w.cell? ⟨X, 1, none⟩ = some pl := by
  obtain ⟨a, b, f, u, pay, rfl, c1, _⟩ := h
  exact c1
end Go.Proofs.Ytaofambmajlhmaa
