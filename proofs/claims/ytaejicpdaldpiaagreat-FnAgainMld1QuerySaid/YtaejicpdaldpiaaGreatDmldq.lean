/-
  The decoder of mld1query.
-/
import Derived.Test.YtaejicpdaldpiaaGreatRead
import Derived.Test.YtaejicpdaldpiaaGreatBits
namespace Go.Proofs.YtaejicpdaldpiaaGreat
open Go Go.RowKit

theorem m_mldq (k : Nat) (a : Addr) (w : World) : (method (k + 1) 85 (.pointer (some a)) "DecodeFromBytes").run Tryz.prog w = .ok (111, .pointer (some a)) w := by kernel_rfl

set_option maxRecDepth 100000 in
set_option maxHeartbeats 1000000 in
theorem dfb_mldqA {B X g o n c : Nat} {kv : Value} (x0 x1 x2 x3 x4 x5 x6 x7 x8 x9 x10 x11 x12 x13 x14 x15 x16 x17 x18 x19 : Int) {rest : List Int} {w : World} (hn : n = rest.length + 20) (hc : n ≤ c) (hm : c ≤ 9223372036854775807) (hq : (20 : Int) < (n : Int))
    (hb : ∀ z ∈ [x0, x1, x2, x3, x4, x5, x6, x7, x8, x9, x10, x11, x12, x13, x14, x15, x16, x17, x18, x19], 0 ≤ z ∧ z ≤ 255) (hBX : B ≤ X) (hr : RowAt w (· < B) (some ⟨g, o, none⟩) ((x0 :: x1 :: x2 :: x3 :: x4 :: x5 :: x6 :: x7 :: x8 :: x9 :: x10 :: x11 :: x12 :: x13 :: x14 :: x15 :: x16 :: x17 :: x18 :: x19 :: rest).map (.int .u8)))
    (hX : w.heap[X]? = some (.cells #[.slice none 0 0, .slice none 0 0, .int .i64 0, .slice none 0 0] 90 (0, 0))) :
    Calls Tryz.prog 111 #[.pointer (some ⟨X, 0, none⟩), .slice (some ⟨g, o, none⟩) n c, kv] w fun e w' =>
      e = .returned .nilIface ∧ (∃ pl, w'.cell? ⟨X, 1, none⟩ = some pl ∧ SB w' (· < B) pl rest) ∧ w'.cell? ⟨X, 2, none⟩ = some (.int .i64 ((x0 * 256 + x1) * 1000000)) ∧ (∃ mv, w'.cell? ⟨X, 3, none⟩ = some mv ∧ SB w' (· < B) mv [x4, x5, x6, x7, x8, x9, x10, x11, x12, x13, x14, x15, x16, x17, x18, x19]) ∧ Below X w w' := by
  have hnm : 20 ≤ n := by omega
  have b2 : (2 : Int) ≤ (c : Int) := by omega
  have b4 : (4 : Int) ≤ (c : Int) := by omega
  have b20 : (20 : Int) ≤ (c : Int) := by omega
  have e2 : ¬ (c = 2) := by omega
  have e4 : ¬ (c = 4) := by omega
  have HN := Lib.hid hn
  clear hn
  have hP := SB.tail (n := n) (k := 20) (A := some ⟨g, o + 20, none⟩) hr (by simpa using HN.out) hnm hc hm (by rw [if_neg (by omega)])
  have HD := Lib.hid (show SB w (· < B) (.slice (some ⟨g, o + 4, none⟩) 16 (c - 4)) [x4, x5, x6, x7, x8, x9, x10, x11, x12, x13, x14, x15, x16, x17, x18, x19] from SB.from (lo := 4) (hi := 20) hr (by omega) (by simp) (by have := HN.out; simp; omega) hm (by rw [if_neg (by omega)]))
  obtain ⟨hg, hcell⟩ := rowCells hr (by simp)
  have hgX : g ≠ X := by
    rcases hr with h | ⟨b, o', hp, hb, _, _⟩
    · simp at h
    · simp only [Option.some.injEq, Addr.mk.injEq, and_true] at hp
      have : g < B := hp.1 ▸ hb
      omega
  have c0 := hcell 0 _ (by simp; rfl)
  have c1 := hcell 1 _ (by simp; rfl)
  rw [Nat.add_zero] at c0
  have h0 := hb x0 (by simp)
  have h1 := hb x1 (by simp)
  have d0 : w.cell? ⟨X, 0, none⟩ = some (.slice none 0 0) := by simp [World.cell?, hX]
  have d1 : w.cell? ⟨X, 1, none⟩ = some (.slice none 0 0) := by simp [World.cell?, hX]
  have d2 : w.cell? ⟨X, 2, none⟩ = some (.int .i64 0) := by simp [World.cell?, hX]
  have d3 : w.cell? ⟨X, 3, none⟩ = some (.slice none 0 0) := by simp [World.cell?, hX]
  have f0 : w.frozen? ⟨X, 0, none⟩ = false := by simp [World.frozen?, hX]
  have f1 : w.frozen? ⟨X, 1, none⟩ = false := by simp [World.frozen?, hX]
  have f2 : w.frozen? ⟨X, 2, none⟩ = false := by simp [World.frozen?, hX]
  have f3 : w.frozen? ⟨X, 3, none⟩ = false := by simp [World.frozen?, hX]
  have lX : X < w.heap.size := (Array.getElem?_eq_some_iff.1 hX).1
  have lX1 : X < w.heap.size + 1 := by omega
  have lX2 : X < w.heap.size + 1 + 1 := by omega
  have lX3 : X < w.heap.size + 1 + 1 + 1 := by omega
  have lg1 : g < w.heap.size + 1 := by omega
  have lg2 : g < w.heap.size + 1 + 1 := by omega
  have HP := Lib.hid hP
  clear hP
  clear hr hcell hb hX
  go_enter Tryz.func111, Tryz.ntmps111
  go_wp2_with (go_at_call 114; go_in)
  refine wp_region_lex (fun _ => True) [9] (.q 0 (.q 1 (.q 2 (.q 3 (.l 4 (.q 5 (.q 6 (.q 7 (.q 8 (.l 9 .done .stop))))) .stop))))) (by kernel_rfl) (by kernel_rfl) (fun _ _ d _ _ h => by cases d <;> exact h) (by simp only [Ord.fill, nthOp]; rfl) trivial ?_
  repeat
    first | refine lexO_pass rfl ?_ | (refine lexO_take2 ?_ rfl (by kernel_rfl) trivial (fun w' _ K Q' hK => ?_) ?_; rotate_left; focus (go_wp2_with fail; exact hK))
  refine lexO_do rfl (fun K hK => ?_) lexO_stop
  go_wp2_with (go_at_call 66; refine (u16_c x0 x1 (by omega) h0 h1 (by go_simp) (by go_simp)).mono ?_; rintro e w' ⟨rfl, rfl⟩)
  refine ⟨fun _ => trivial, ?_⟩
  repeat
    first | refine lexO_pass rfl ?_ | (refine lexO_take2 ?_ rfl (by kernel_rfl) trivial (fun w' _ K Q' hK => ?_) ?_; rotate_left; focus (go_wp2_with fail; exact hK))
  refine lexO_do rfl (fun K hK => ?_) lexO_stop
  go_wp2_with fail
  refine step_last (by decide) (lexO_done ?_)
  go_wp2_with fail

  refine bodyPost_ret (v := .nilIface) (by simp only [results, Tryz.results111]; go_simp) rfl ⟨rfl, ⟨.slice (some ⟨g, o + 20, none⟩) (n - 20) (c - 20), by go_simp, HP.out.keeps (by repeat (first | with_reducible assumption | with_reducible exact Keeps.refl _ _ | with_reducible refine Keeps.drew ?_ | with_reducible refine Keeps.drewN ?_ _ | with_reducible refine Keeps.alloc ?_ _ | with_reducible refine Keeps.setCell ?_ ?_ _ | omega | focus (simp; done) | focus (simp; omega)))⟩, by go_simp, ⟨_, by go_simp, HD.out.keeps (by repeat (first | with_reducible assumption | with_reducible exact Keeps.refl _ _ | with_reducible refine Keeps.drew ?_ | with_reducible refine Keeps.drewN ?_ _ | with_reducible refine Keeps.alloc ?_ _ | with_reducible refine Keeps.setCell ?_ ?_ _ | omega | focus (simp; done) | focus (simp; omega)))⟩, ?_⟩
  have h0 := Below.refl X w
  exact (by repeat (first | with_reducible assumption | with_reducible refine Below.drew ?_ | with_reducible refine below_drewN' ?_ _ | with_reducible refine Below.alloc ?_ ?_ _ | with_reducible refine Below.setCell ?_ ?_ _ | with_reducible exact Nat.le_refl _ | omega | focus (simp; done) | focus (simp; omega)))

set_option maxRecDepth 100000 in
set_option maxHeartbeats 1000000 in
theorem dfb_mldqB {B X g o n c : Nat} {kv : Value} (x0 x1 x2 x3 x4 x5 x6 x7 x8 x9 x10 x11 x12 x13 x14 x15 x16 x17 x18 x19 : Int) {rest : List Int} {w : World} (hn : n = rest.length + 20) (hc : n ≤ c) (hm : c ≤ 9223372036854775807) (hq : ¬ (20 : Int) < (n : Int))
    (hb : ∀ z ∈ [x0, x1, x2, x3, x4, x5, x6, x7, x8, x9, x10, x11, x12, x13, x14, x15, x16, x17, x18, x19], 0 ≤ z ∧ z ≤ 255) (hBX : B ≤ X) (hr : RowAt w (· < B) (some ⟨g, o, none⟩) ((x0 :: x1 :: x2 :: x3 :: x4 :: x5 :: x6 :: x7 :: x8 :: x9 :: x10 :: x11 :: x12 :: x13 :: x14 :: x15 :: x16 :: x17 :: x18 :: x19 :: rest).map (.int .u8)))
    (hX : w.heap[X]? = some (.cells #[.slice none 0 0, .slice none 0 0, .int .i64 0, .slice none 0 0] 90 (0, 0))) :
    Calls Tryz.prog 111 #[.pointer (some ⟨X, 0, none⟩), .slice (some ⟨g, o, none⟩) n c, kv] w fun e w' =>
      e = .returned .nilIface ∧ (∃ pl, w'.cell? ⟨X, 1, none⟩ = some pl ∧ SB w' (· < B) pl rest) ∧ w'.cell? ⟨X, 2, none⟩ = some (.int .i64 ((x0 * 256 + x1) * 1000000)) ∧ (∃ mv, w'.cell? ⟨X, 3, none⟩ = some mv ∧ SB w' (· < B) mv [x4, x5, x6, x7, x8, x9, x10, x11, x12, x13, x14, x15, x16, x17, x18, x19]) ∧ Below X w w' := by
  have hnm : 20 ≤ n := by omega
  have b2 : (2 : Int) ≤ (c : Int) := by omega
  have b4 : (4 : Int) ≤ (c : Int) := by omega
  have b20 : (20 : Int) ≤ (c : Int) := by omega
  have e2 : ¬ (c = 2) := by omega
  have e4 : ¬ (c = 4) := by omega
  have HN := Lib.hid hn
  clear hn
  have HD := Lib.hid (show SB w (· < B) (.slice (some ⟨g, o + 4, none⟩) 16 (c - 4)) [x4, x5, x6, x7, x8, x9, x10, x11, x12, x13, x14, x15, x16, x17, x18, x19] from SB.from (lo := 4) (hi := 20) hr (by omega) (by simp) (by have := HN.out; simp; omega) hm (by rw [if_neg (by omega)]))
  obtain ⟨hg, hcell⟩ := rowCells hr (by simp)
  have hgX : g ≠ X := by
    rcases hr with h | ⟨b, o', hp, hb, _, _⟩
    · simp at h
    · simp only [Option.some.injEq, Addr.mk.injEq, and_true] at hp
      have : g < B := hp.1 ▸ hb
      omega
  have c0 := hcell 0 _ (by simp; rfl)
  have c1 := hcell 1 _ (by simp; rfl)
  rw [Nat.add_zero] at c0
  have h0 := hb x0 (by simp)
  have h1 := hb x1 (by simp)
  have d0 : w.cell? ⟨X, 0, none⟩ = some (.slice none 0 0) := by simp [World.cell?, hX]
  have d1 : w.cell? ⟨X, 1, none⟩ = some (.slice none 0 0) := by simp [World.cell?, hX]
  have d2 : w.cell? ⟨X, 2, none⟩ = some (.int .i64 0) := by simp [World.cell?, hX]
  have d3 : w.cell? ⟨X, 3, none⟩ = some (.slice none 0 0) := by simp [World.cell?, hX]
  have f0 : w.frozen? ⟨X, 0, none⟩ = false := by simp [World.frozen?, hX]
  have f1 : w.frozen? ⟨X, 1, none⟩ = false := by simp [World.frozen?, hX]
  have f2 : w.frozen? ⟨X, 2, none⟩ = false := by simp [World.frozen?, hX]
  have f3 : w.frozen? ⟨X, 3, none⟩ = false := by simp [World.frozen?, hX]
  have lX : X < w.heap.size := (Array.getElem?_eq_some_iff.1 hX).1
  have lX1 : X < w.heap.size + 1 := by omega
  have lX2 : X < w.heap.size + 1 + 1 := by omega
  have lX3 : X < w.heap.size + 1 + 1 + 1 := by omega
  have lg1 : g < w.heap.size + 1 := by omega
  have lg2 : g < w.heap.size + 1 + 1 := by omega
  clear hr hcell hb hX
  go_enter Tryz.func111, Tryz.ntmps111
  go_wp2_with (go_at_call 114; go_in)
  refine wp_region_lex (fun _ => True) [9] (.q 0 (.q 1 (.q 2 (.q 3 (.l 4 (.q 5 (.q 6 (.q 7 (.q 8 (.l 9 .done .stop))))) .stop))))) (by kernel_rfl) (by kernel_rfl) (fun _ _ d _ _ h => by cases d <;> exact h) (by simp only [Ord.fill, nthOp]; rfl) trivial ?_
  repeat
    first | refine lexO_pass rfl ?_ | (refine lexO_take2 ?_ rfl (by kernel_rfl) trivial (fun w' _ K Q' hK => ?_) ?_; rotate_left; focus (go_wp2_with fail; exact hK))
  refine lexO_do rfl (fun K hK => ?_) lexO_stop
  go_wp2_with (go_at_call 66; refine (u16_c x0 x1 (by omega) h0 h1 (by go_simp) (by go_simp)).mono ?_; rintro e w' ⟨rfl, rfl⟩)
  refine ⟨fun _ => trivial, ?_⟩
  repeat
    first | refine lexO_pass rfl ?_ | (refine lexO_take2 ?_ rfl (by kernel_rfl) trivial (fun w' _ K Q' hK => ?_) ?_; rotate_left; focus (go_wp2_with fail; exact hK))
  refine lexO_do rfl (fun K hK => ?_) lexO_stop
  go_wp2_with fail
  refine step_last (by decide) (lexO_done ?_)
  go_wp2_with fail

  refine bodyPost_ret (v := .nilIface) (by simp only [results, Tryz.results111]; go_simp) rfl ⟨rfl, ⟨.slice none 0 0, by go_simp, List.eq_nil_of_length_eq_zero (by have := HN.out; omega : rest.length = 0) ▸ SB.nil _ _⟩, by go_simp, ⟨_, by go_simp, HD.out.keeps (by repeat (first | with_reducible assumption | with_reducible exact Keeps.refl _ _ | with_reducible refine Keeps.drew ?_ | with_reducible refine Keeps.drewN ?_ _ | with_reducible refine Keeps.alloc ?_ _ | with_reducible refine Keeps.setCell ?_ ?_ _ | omega | focus (simp; done) | focus (simp; omega)))⟩, ?_⟩
  have h0 := Below.refl X w
  exact (by repeat (first | with_reducible assumption | with_reducible refine Below.drew ?_ | with_reducible refine below_drewN' ?_ _ | with_reducible refine Below.alloc ?_ ?_ _ | with_reducible refine Below.setCell ?_ ?_ _ | with_reducible exact Nat.le_refl _ | omega | focus (simp; done) | focus (simp; omega)))

set_option maxRecDepth 100000 in
set_option maxHeartbeats 1000000 in
theorem dfb_mldq {B X g o n c : Nat} {kv : Value} (x0 x1 x2 x3 x4 x5 x6 x7 x8 x9 x10 x11 x12 x13 x14 x15 x16 x17 x18 x19 : Int) {rest : List Int} {w : World} (hn : n = rest.length + 20) (hc : n ≤ c) (hm : c ≤ 9223372036854775807)
    (hb : ∀ z ∈ [x0, x1, x2, x3, x4, x5, x6, x7, x8, x9, x10, x11, x12, x13, x14, x15, x16, x17, x18, x19], 0 ≤ z ∧ z ≤ 255) (hBX : B ≤ X) (hr : RowAt w (· < B) (some ⟨g, o, none⟩) ((x0 :: x1 :: x2 :: x3 :: x4 :: x5 :: x6 :: x7 :: x8 :: x9 :: x10 :: x11 :: x12 :: x13 :: x14 :: x15 :: x16 :: x17 :: x18 :: x19 :: rest).map (.int .u8)))
    (hX : w.heap[X]? = some (.cells #[.slice none 0 0, .slice none 0 0, .int .i64 0, .slice none 0 0] 90 (0, 0))) :
    Calls Tryz.prog 111 #[.pointer (some ⟨X, 0, none⟩), .slice (some ⟨g, o, none⟩) n c, kv] w fun e w' =>
      e = .returned .nilIface ∧ (∃ pl, w'.cell? ⟨X, 1, none⟩ = some pl ∧ SB w' (· < B) pl rest) ∧ w'.cell? ⟨X, 2, none⟩ = some (.int .i64 ((x0 * 256 + x1) * 1000000)) ∧ (∃ mv, w'.cell? ⟨X, 3, none⟩ = some mv ∧ SB w' (· < B) mv [x4, x5, x6, x7, x8, x9, x10, x11, x12, x13, x14, x15, x16, x17, x18, x19]) ∧ Below X w w' := by
  by_cases hq : (20 : Int) < (n : Int)
  · exact dfb_mldqA x0 x1 x2 x3 x4 x5 x6 x7 x8 x9 x10 x11 x12 x13 x14 x15 x16 x17 x18 x19 hn hc hm hq hb hBX hr hX
  · exact dfb_mldqB x0 x1 x2 x3 x4 x5 x6 x7 x8 x9 x10 x11 x12 x13 x14 x15 x16 x17 x18 x19 hn hc hm hq hb hBX hr hX

/-- A message of MLDv1 at X. -/
def IsMldq (w : World) (X : Nat) (pl : Value) (l : Lay) : Prop :=
  ∃ a mv ma pay, l = ⟨[a], [ma], [], pay⟩ ∧ w.cell? ⟨X, 1, none⟩ = some pl ∧ SB w (fun _ => True) pl pay ∧ w.cell? ⟨X, 2, none⟩ = some (.int .i64 a) ∧ w.cell? ⟨X, 3, none⟩ = some mv ∧ SB w (fun _ => True) mv ma ∧ (0 ≤ a ∧ a ≤ 65535000000) ∧ ma.length ≤ 1000

set_option maxRecDepth 100000 in
set_option maxHeartbeats 1000000 in
theorem decode_mldq {g o n c : Nat} (x0 x1 x2 x3 x4 x5 x6 x7 x8 x9 x10 x11 x12 x13 x14 x15 x16 x17 x18 x19 : Int) {rest : List Int} {w : World} (hn : n = rest.length + 20) (hc : n ≤ c) (hm : c ≤ 9223372036854775807)
    (hb : ∀ z ∈ [x0, x1, x2, x3, x4, x5, x6, x7, x8, x9, x10, x11, x12, x13, x14, x15, x16, x17, x18, x19], 0 ≤ z ∧ z ≤ 255) (hr : RowAt w (fun _ => True) (some ⟨g, o, none⟩) ((x0 :: x1 :: x2 :: x3 :: x4 :: x5 :: x6 :: x7 :: x8 :: x9 :: x10 :: x11 :: x12 :: x13 :: x14 :: x15 :: x16 :: x17 :: x18 :: x19 :: rest).map (.int .u8))) :
    Calls Tryz.prog 47 #[.string ⟨#[109, 108, 100, 49, 113, 117, 101, 114, 121]⟩, .slice (some ⟨g, o, none⟩) n c] w fun e w' =>
      ∃ X pl, e = .returned (.tuple #[.iface 85 (.pointer (some ⟨X, 0, none⟩)), .nilIface]) ∧ IsMldq w' X pl ⟨[(x0 * 256 + x1) * 1000000], [[x4, x5, x6, x7, x8, x9, x10, x11, x12, x13, x14, x15, x16, x17, x18, x19]], [], rest⟩ ∧ Below w.heap.size w w' := by
  have m1 := m_mldq
  have m2 := m_add
  have HR := Lib.hid hr
  have HB := Lib.hid hb
  have HN := Lib.hid hn
  clear hr hb hn
  go_enter Tryz.func47, Tryz.ntmps47
  have HR1 := Lib.hid (HR.out.imp (fun b hb _ => hb))
  go_wp2_with (first | (go_at_call 49; refine new_c.mono ?_; rintro e w' ⟨rfl, rfl⟩) | (go_at_call 111; refine (dfb_mldq x0 x1 x2 x3 x4 x5 x6 x7 x8 x9 x10 x11 x12 x13 x14 x15 x16 x17 x18 x19 HN.out hc hm HB.out (by omega) (HR1.out.keeps (by repeat (first | with_reducible assumption | with_reducible exact Keeps.refl _ _ | with_reducible refine Keeps.drew ?_ | with_reducible refine Keeps.drewN ?_ _ | with_reducible refine Keeps.alloc ?_ _ | with_reducible refine Keeps.setCell ?_ ?_ _ | omega | focus (simp; done) | focus (simp; omega)))) (by (try simp only [heap_drew]); repeat (first | (with_reducible refine heap_last ?_; focus (simp; done)) | with_reducible refine heap_past ?_))).mono ?_; rintro e w1 ⟨rfl, hp, c2, hd, hb1⟩; have HP := Lib.hid hp; clear hp; have HD := Lib.hid hd; clear hd; have k0 : w1.cell? ⟨w.heap.size, 0, none⟩ = some .nilIface := (hb1.cell (p := ⟨w.heap.size, 0, none⟩) (by simp; omega)).trans (by go_simp); have k1 : w1.frozen? ⟨w.heap.size, 0, none⟩ = false := (hb1.frozen (p := ⟨w.heap.size, 0, none⟩) (by simp; omega)).trans (by go_simp); have HB1 := Lib.hid hb1; clear hb1) | (go_at_call 162; refine (add_c k0 k1).mono ?_; rintro e w' ⟨rfl, rfl⟩) | (go_at_call 54; go_in) | (go_at_call 69; go_in))
  refine bodyPost_ret (v := .tuple #[.iface 85 (.pointer (some ⟨w.heap.size + 1 + 1, 0, none⟩)), .nilIface]) (by simp only [results, Tryz.results47]; go_simp) rfl ?_
  have hb := HB.out
  have hw : Below w.heap.size w w1 := by
    have h0 := Below.refl w.heap.size w
    refine Below.trans (b := _) ?_ (HB1.out.mono (by omega))
    exact (by repeat (first | with_reducible assumption | with_reducible refine Below.drew ?_ | with_reducible refine below_drewN' ?_ _ | with_reducible refine Below.alloc ?_ ?_ _ | with_reducible refine Below.setCell ?_ ?_ _ | with_reducible exact Nat.le_refl _ | omega | focus (simp; done) | focus (simp; omega)))
  have h0 := hb x0 (by simp)
  have h1 := hb x1 (by simp)
  obtain ⟨pl, c1, hs⟩ := HP.out
  obtain ⟨mv, c3, hd⟩ := HD.out
  refine ⟨_, pl, rfl, ⟨_, _, _, _, rfl, by go_simp, (hs.keeps (by repeat (first | with_reducible assumption | with_reducible exact Keeps.refl _ _ | with_reducible refine Keeps.drew ?_ | with_reducible refine Keeps.drewN ?_ _ | with_reducible refine Keeps.alloc ?_ _ | with_reducible refine Keeps.setCell ?_ ?_ _ | omega | focus (simp; done) | focus (simp; omega)))).imp (fun _ _ _ => trivial), by go_simp, by go_simp, (hd.keeps (by repeat (first | with_reducible assumption | with_reducible exact Keeps.refl _ _ | with_reducible refine Keeps.drew ?_ | with_reducible refine Keeps.drewN ?_ _ | with_reducible refine Keeps.alloc ?_ _ | with_reducible refine Keeps.setCell ?_ ?_ _ | omega | focus (simp; done) | focus (simp; omega)))).imp (fun _ _ _ => trivial), by omega, by simp⟩, (by repeat (first | with_reducible assumption | with_reducible refine Below.drew ?_ | with_reducible refine below_drewN' ?_ _ | with_reducible refine Below.alloc ?_ ?_ _ | with_reducible refine Below.setCell ?_ ?_ _ | with_reducible exact Nat.le_refl _ | omega | focus (simp; done) | focus (simp; omega)))⟩

set_option maxRecDepth 100000 in
set_option maxHeartbeats 1000000 in
theorem decode_mldq_short {p : Option Addr} {n c : Nat} {w : World} (hn : n < 20) :
    Calls Tryz.prog 47 #[.string ⟨#[109, 108, 100, 49, 113, 117, 101, 114, 121]⟩, .slice p n c] w fun e w' =>
      (∃ t v, e = .returned (.tuple #[.nilIface, .iface t v])) ∧ Below w.heap.size w w' := by
  have m1 := m_mldq
  have m2 := m_trunc
  go_enter Tryz.func47, Tryz.ntmps47
  go_wp2_with (first | (go_at_call 49; refine new_c.mono ?_; rintro e w' ⟨rfl, rfl⟩) | (go_at_call 163; refine trunc_c.mono ?_; rintro e w' ⟨rfl, rfl⟩) | (go_at_call 54; go_in) | (go_at_call 111; go_in) | (go_at_call 69; go_in) | (go_at_call 114; go_in))
  refine bodyPost_ret (v := .tuple #[.nilIface, .iface 201 (.pointer (some ⟨w.heap.size + 1 + 1 + 1, 0, none⟩))]) (by simp only [results, Tryz.results47]; go_simp) rfl ?_
  have h0 := Below.refl w.heap.size w
  exact ⟨⟨_, _, rfl⟩, (by repeat (first | with_reducible assumption | with_reducible refine Below.drew ?_ | with_reducible refine below_drewN' ?_ _ | with_reducible refine Below.alloc ?_ ?_ _ | with_reducible refine Below.setCell ?_ ?_ _ | with_reducible exact Nat.le_refl _ | omega | focus (simp; done) | focus (simp; omega)))⟩

/-- The data of the bytes. -/
def dMldq : List Int → Option Lay
  | x0 :: x1 :: _ :: _ :: x4 :: x5 :: x6 :: x7 :: x8 :: x9 :: x10 :: x11 :: x12 :: x13 :: x14 :: x15 :: x16 :: x17 :: x18 :: x19 :: rest => some ⟨[(x0 * 256 + x1) * 1000000], [[x4, x5, x6, x7, x8, x9, x10, x11, x12, x13, x14, x15, x16, x17, x18, x19]], [], rest⟩
  | _ => none

set_option maxHeartbeats 2000000 in
theorem decOf_mldq {bs : List Int} (hb : ∀ z ∈ bs, 0 ≤ z ∧ z ≤ 255) : DecOf (.string ⟨#[109, 108, 100, 49, 113, 117, 101, 114, 121]⟩) bs (dMldq bs) 85 IsMldq := by
  intro v w h
  obtain ⟨p, c, rfl, hnc, hc, hp, hr⟩ := h
  match bs, hb, hnc, hr with
  | x0 :: x1 :: x2 :: x3 :: x4 :: x5 :: x6 :: x7 :: x8 :: x9 :: x10 :: x11 :: x12 :: x13 :: x14 :: x15 :: x16 :: x17 :: x18 :: x19 :: rest, hb, hnc, hr =>
    rcases hr with h | ⟨b, o, rfl, h1, h2, h3⟩
    · simp at h
    · refine (decode_mldq x0 x1 x2 x3 x4 x5 x6 x7 x8 x9 x10 x11 x12 x13 x14 x15 x16 x17 x18 x19 (rest := rest) (by simp) hnc hc (fun z hz => hb z (List.mem_append_left rest hz)) (.inr ⟨b, o, rfl, h1, h2, h3⟩)).mono ?_
      rintro e w' ⟨X, pl, he, hi, hb⟩
      exact ⟨hb, .inr ⟨_, X, pl, rfl, he, hi⟩⟩
  | [], _, _, _ => exact (decode_mldq_short (by simp)).mono fun e w' h => ⟨h.2, .inl ⟨rfl, h.1⟩⟩
  | [_], _, _, _ => exact (decode_mldq_short (by simp)).mono fun e w' h => ⟨h.2, .inl ⟨rfl, h.1⟩⟩
  | [_, _], _, _, _ => exact (decode_mldq_short (by simp)).mono fun e w' h => ⟨h.2, .inl ⟨rfl, h.1⟩⟩
  | [_, _, _], _, _, _ => exact (decode_mldq_short (by simp)).mono fun e w' h => ⟨h.2, .inl ⟨rfl, h.1⟩⟩
  | [_, _, _, _], _, _, _ => exact (decode_mldq_short (by simp)).mono fun e w' h => ⟨h.2, .inl ⟨rfl, h.1⟩⟩
  | [_, _, _, _, _], _, _, _ => exact (decode_mldq_short (by simp)).mono fun e w' h => ⟨h.2, .inl ⟨rfl, h.1⟩⟩
  | [_, _, _, _, _, _], _, _, _ => exact (decode_mldq_short (by simp)).mono fun e w' h => ⟨h.2, .inl ⟨rfl, h.1⟩⟩
  | [_, _, _, _, _, _, _], _, _, _ => exact (decode_mldq_short (by simp)).mono fun e w' h => ⟨h.2, .inl ⟨rfl, h.1⟩⟩
  | [_, _, _, _, _, _, _, _], _, _, _ => exact (decode_mldq_short (by simp)).mono fun e w' h => ⟨h.2, .inl ⟨rfl, h.1⟩⟩
  | [_, _, _, _, _, _, _, _, _], _, _, _ => exact (decode_mldq_short (by simp)).mono fun e w' h => ⟨h.2, .inl ⟨rfl, h.1⟩⟩
  | [_, _, _, _, _, _, _, _, _, _], _, _, _ => exact (decode_mldq_short (by simp)).mono fun e w' h => ⟨h.2, .inl ⟨rfl, h.1⟩⟩
  | [_, _, _, _, _, _, _, _, _, _, _], _, _, _ => exact (decode_mldq_short (by simp)).mono fun e w' h => ⟨h.2, .inl ⟨rfl, h.1⟩⟩
  | [_, _, _, _, _, _, _, _, _, _, _, _], _, _, _ => exact (decode_mldq_short (by simp)).mono fun e w' h => ⟨h.2, .inl ⟨rfl, h.1⟩⟩
  | [_, _, _, _, _, _, _, _, _, _, _, _, _], _, _, _ => exact (decode_mldq_short (by simp)).mono fun e w' h => ⟨h.2, .inl ⟨rfl, h.1⟩⟩
  | [_, _, _, _, _, _, _, _, _, _, _, _, _, _], _, _, _ => exact (decode_mldq_short (by simp)).mono fun e w' h => ⟨h.2, .inl ⟨rfl, h.1⟩⟩
  | [_, _, _, _, _, _, _, _, _, _, _, _, _, _, _], _, _, _ => exact (decode_mldq_short (by simp)).mono fun e w' h => ⟨h.2, .inl ⟨rfl, h.1⟩⟩
  | [_, _, _, _, _, _, _, _, _, _, _, _, _, _, _, _], _, _, _ => exact (decode_mldq_short (by simp)).mono fun e w' h => ⟨h.2, .inl ⟨rfl, h.1⟩⟩
  | [_, _, _, _, _, _, _, _, _, _, _, _, _, _, _, _, _], _, _, _ => exact (decode_mldq_short (by simp)).mono fun e w' h => ⟨h.2, .inl ⟨rfl, h.1⟩⟩
  | [_, _, _, _, _, _, _, _, _, _, _, _, _, _, _, _, _, _], _, _, _ => exact (decode_mldq_short (by simp)).mono fun e w' h => ⟨h.2, .inl ⟨rfl, h.1⟩⟩
  | [_, _, _, _, _, _, _, _, _, _, _, _, _, _, _, _, _, _, _], _, _, _ => exact (decode_mldq_short (by simp)).mono fun e w' h => ⟨h.2, .inl ⟨rfl, h.1⟩⟩

theorem isMldq_below {w w' : World} {X : Nat} {pl : Value} {l : Lay} (k : Below w.heap.size w w') (h : IsMldq w X pl l) : IsMldq w' X pl l := by
  obtain ⟨a, mv, ma, pay, rfl, c1, hp, c2, c3, hd, b0, b1⟩ := h
  have hc : ∀ j u, w.cell? ⟨X, j, none⟩ = some u → w'.cell? ⟨X, j, none⟩ = some u := fun j u hu => (k.cell (p := ⟨X, j, none⟩) (World.block_lt_of_cell? _ _ hu)).trans hu
  exact ⟨a, mv, ma, pay, rfl, hc _ _ c1, hp.keeps (Keeps.of_below k), hc _ _ c2, hc _ _ c3, hd.keeps (Keeps.of_below k), b0, b1⟩
theorem isMldq_pl {w : World} {X : Nat} {pl : Value} {l : Lay} (h : IsMldq w X pl l) : w.cell? ⟨X, 1, none⟩ = some pl := by
  obtain ⟨a, mv, ma, pay, rfl, c1, _⟩ := h
  exact c1
end Go.Proofs.YtaejicpdaldpiaaGreat
