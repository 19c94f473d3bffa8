/-
  The decoder of asfpong.
-/
import Derived.Test.YtaejicpdaldpiaaGreatRead
import Derived.Test.YtaejicpdaldpiaaGreatBits
import Derived.Test.YtaejicpdaldpiaaGreatCopy
namespace Go.Proofs.YtaejicpdaldpiaaGreat
open Go Go.RowKit

theorem m_asfpong (k : Nat) (a : Addr) (w : World) : (method (k + 1) 140 (.pointer (some a)) "DecodeFromBytes").run Tryz.prog w = .ok (143, .pointer (some a)) w := by kernel_rfl

set_option maxRecDepth 100000 in
set_option maxHeartbeats 1000000 in
theorem dfb_asfpong {B X g o n c : Nat} {kv : Value} (x0 x1 x2 x3 x4 x5 x6 x7 x8 x9 x10 x11 x12 x13 x14 x15 : Int) {rest : List Int} {w : World} (hn : n = rest.length + 16) (hc : n ≤ c) (hm : c ≤ 9223372036854775807)
    (hb : ∀ z ∈ [x0, x1, x2, x3, x4, x5, x6, x7, x8, x9, x10, x11, x12, x13, x14, x15], 0 ≤ z ∧ z ≤ 255) (hBX : B ≤ X) (hr : RowAt w (· < B) (some ⟨g, o, none⟩) ((x0 :: x1 :: x2 :: x3 :: x4 :: x5 :: x6 :: x7 :: x8 :: x9 :: x10 :: x11 :: x12 :: x13 :: x14 :: x15 :: rest).map (.int .u8)))
    (hX : w.heap[X]? = some (.cells #[.slice none 0 0, .slice none 0 0, .int .u32 0, .int .u8 0, .int .u8 0, .int .u8 0, .int .u8 0, .bool false, .bool false, .bool false, .bool false] 143 (0, 0))) :
    Calls Tryz.prog 143 #[.pointer (some ⟨X, 0, none⟩), .slice (some ⟨g, o, none⟩) n c, kv] w fun e w' =>
      e = .returned .nilIface ∧ (∃ pl, w'.cell? ⟨X, 1, none⟩ = some pl ∧ SB w' (· < B) pl rest) ∧ w'.cell? ⟨X, 2, none⟩ = some (.int .u32 (((x0 * 256 + x1) * 256 + x2) * 256 + x3)) ∧ w'.cell? ⟨X, 3, none⟩ = some (.int .u8 x4) ∧ w'.cell? ⟨X, 4, none⟩ = some (.int .u8 x5) ∧ w'.cell? ⟨X, 5, none⟩ = some (.int .u8 x6) ∧ w'.cell? ⟨X, 6, none⟩ = some (.int .u8 x7) ∧ w'.cell? ⟨X, 7, none⟩ = some (.bool (hasBit x8 128)) ∧ w'.cell? ⟨X, 8, none⟩ = some (.bool (hasBit x8 1)) ∧ w'.cell? ⟨X, 9, none⟩ = some (.bool (hasBit x9 128)) ∧ w'.cell? ⟨X, 10, none⟩ = some (.bool (hasBit x9 32)) ∧ Below X w w' := by
  have hnm : 16 ≤ n := by omega
  have b4 : (4 : Int) ≤ (c : Int) := by omega
  have b8 : (8 : Int) ≤ (c : Int) := by omega
  have e4 : ¬ (c = 4) := by omega
  have HN := Lib.hid hn
  clear hn
  obtain ⟨A16, hA16⟩ : ∃ A, (if c = 16 then some (⟨g, o, none⟩ : Addr) else some ⟨g, o + 16, none⟩) = A := ⟨_, rfl⟩
  have hP := SB.tail (n := n) hr (by simpa using HN.out) hnm hc hm hA16
  obtain ⟨hg, hcell⟩ := rowCells hr (by simp)
  have hgX : g ≠ X := by
    rcases hr with h | ⟨b, o', hp, hb, _, _⟩
    · simp at h
    · simp only [Option.some.injEq, Addr.mk.injEq, and_true] at hp
      have : g < B := hp.1 ▸ hb
      omega
  have c0 := hcell 0 _ (by simp; rfl)
  have c1 := hcell 1 _ (by simp; rfl)
  have c2 := hcell 2 _ (by simp; rfl)
  have c3 := hcell 3 _ (by simp; rfl)
  have c4 := hcell 4 _ (by simp; rfl)
  have c5 := hcell 5 _ (by simp; rfl)
  have c6 := hcell 6 _ (by simp; rfl)
  have c7 := hcell 7 _ (by simp; rfl)
  have c8 := hcell 8 _ (by simp; rfl)
  have c9 := hcell 9 _ (by simp; rfl)
  rw [Nat.add_zero] at c0
  have h0 := hb x0 (by simp)
  have h1 := hb x1 (by simp)
  have h2 := hb x2 (by simp)
  have h3 := hb x3 (by simp)
  have h4 := hb x4 (by simp)
  have h5 := hb x5 (by simp)
  have h6 := hb x6 (by simp)
  have h7 := hb x7 (by simp)
  have h8 := hb x8 (by simp)
  have h9 := hb x9 (by simp)
  have d0 : w.cell? ⟨X, 0, none⟩ = some (.slice none 0 0) := by simp [World.cell?, hX]
  have d1 : w.cell? ⟨X, 1, none⟩ = some (.slice none 0 0) := by simp [World.cell?, hX]
  have d2 : w.cell? ⟨X, 2, none⟩ = some (.int .u32 0) := by simp [World.cell?, hX]
  have d3 : w.cell? ⟨X, 3, none⟩ = some (.int .u8 0) := by simp [World.cell?, hX]
  have d4 : w.cell? ⟨X, 4, none⟩ = some (.int .u8 0) := by simp [World.cell?, hX]
  have d5 : w.cell? ⟨X, 5, none⟩ = some (.int .u8 0) := by simp [World.cell?, hX]
  have d6 : w.cell? ⟨X, 6, none⟩ = some (.int .u8 0) := by simp [World.cell?, hX]
  have d7 : w.cell? ⟨X, 7, none⟩ = some (.bool false) := by simp [World.cell?, hX]
  have d8 : w.cell? ⟨X, 8, none⟩ = some (.bool false) := by simp [World.cell?, hX]
  have d9 : w.cell? ⟨X, 9, none⟩ = some (.bool false) := by simp [World.cell?, hX]
  have d10 : w.cell? ⟨X, 10, none⟩ = some (.bool false) := by simp [World.cell?, hX]
  have f0 : w.frozen? ⟨X, 0, none⟩ = false := by simp [World.frozen?, hX]
  have f1 : w.frozen? ⟨X, 1, none⟩ = false := by simp [World.frozen?, hX]
  have f2 : w.frozen? ⟨X, 2, none⟩ = false := by simp [World.frozen?, hX]
  have f3 : w.frozen? ⟨X, 3, none⟩ = false := by simp [World.frozen?, hX]
  have f4 : w.frozen? ⟨X, 4, none⟩ = false := by simp [World.frozen?, hX]
  have f5 : w.frozen? ⟨X, 5, none⟩ = false := by simp [World.frozen?, hX]
  have f6 : w.frozen? ⟨X, 6, none⟩ = false := by simp [World.frozen?, hX]
  have f7 : w.frozen? ⟨X, 7, none⟩ = false := by simp [World.frozen?, hX]
  have f8 : w.frozen? ⟨X, 8, none⟩ = false := by simp [World.frozen?, hX]
  have f9 : w.frozen? ⟨X, 9, none⟩ = false := by simp [World.frozen?, hX]
  have f10 : w.frozen? ⟨X, 10, none⟩ = false := by simp [World.frozen?, hX]
  have lX : X < w.heap.size := (Array.getElem?_eq_some_iff.1 hX).1
  have lX1 : X < w.heap.size + 1 := by omega
  have lX2 : X < w.heap.size + 1 + 1 := by omega
  have lX3 : X < w.heap.size + 1 + 1 + 1 := by omega
  have lg1 : g < w.heap.size + 1 := by omega
  have lg2 : g < w.heap.size + 1 + 1 := by omega
  have HP := Lib.hid hP
  clear hP
  clear hr hcell hb hX
  go_enter Tryz.func143, Tryz.ntmps143
  go_wp2_with fail
  refine wp_region_lex (fun _ => True) [7] (.q 0 (.q 1 (.q 2 (.q 3 (.l 4 (.q 5 (.q 6 (.l 7 .done .stop))) .stop))))) (by kernel_rfl) (by kernel_rfl) (fun _ _ d _ _ h => by cases d <;> exact h) (by simp only [Ord.fill, nthOp]; rfl) trivial ?_
  repeat
    first | refine lexO_pass rfl ?_ | (refine lexO_take2 ?_ rfl (by kernel_rfl) trivial (fun w' _ K Q' hK => ?_) ?_; rotate_left; focus (go_wp2_with fail; exact hK))
  refine lexO_do rfl (fun K hK => ?_) lexO_stop
  go_wp2_with (go_at_call 67; refine (u32_c x0 x1 x2 x3 (by omega) h0 h1 h2 h3 (by go_simp) (by go_simp) (by go_simp) (by go_simp)).mono ?_; rintro e w' ⟨rfl, rfl⟩)
  refine ⟨fun _ => trivial, ?_⟩
  repeat
    first | refine lexO_pass rfl ?_ | (refine lexO_take2 ?_ rfl (by kernel_rfl) trivial (fun w' _ K Q' hK => ?_) ?_; rotate_left; focus (go_wp2_with fail; exact hK))
  refine lexO_do rfl (fun K hK => ?_) lexO_stop
  go_wp2_with fail
  refine step_last (by decide) (lexO_done ?_)
  go_wp2_with fail
  refine wp_region_lex (fun _ => True) [6] (.q 0 (.q 1 (.q 2 (.q 3 (.q 4 (.q 5 (.l 6 .done .stop))))))) (by kernel_rfl) (by kernel_rfl) (fun _ _ d _ _ h => by cases d <;> exact h) (by simp only [Ord.fill, nthOp]; rfl) trivial ?_
  repeat
    first | refine lexO_pass rfl ?_ | (refine lexO_take2 ?_ rfl (by kernel_rfl) trivial (fun w' _ K Q' hK => ?_) ?_; rotate_left; focus (go_wp2_with fail; exact hK))
  refine lexO_do rfl (fun K hK => ?_) lexO_stop
  refine wp_copy_cells (.tmp 35) (.tmp 37) 22 22 5 rfl Tryz.underlying22 (by kernel_rfl) (b := X) (off := 3) (cs := [.int .u8 x4, .int .u8 x5, .int .u8 x6, .int .u8 x7]) rfl rfl (by rfl) ?s ?c ?f ?o (hK _ _ ⟨fun _ => trivial, lexO_done ?_⟩)
  case s =>
    intro j v hj
    rcases j with _ | _ | _ | _ | j <;> simp at hj <;> subst hj <;> simp [Addr.add] <;> go_simp
  case c =>
    intro j hj
    rcases j with _ | _ | _ | _ | j
    all_goals first | (exfalso; simp at hj; omega) | (simp; go_simp)
  case f =>
    intro j hj
    rcases j with _ | _ | _ | _ | j
    all_goals first | (exfalso; simp at hj; omega) | (simp; go_simp)
  case o => intro v hv; simp at hv; rcases hv with rfl | rfl | rfl | rfl <;> rfl
  simp only [World.setCells]
  go_wp2_with fail
  simp only [hasBit_def]

  refine bodyPost_ret (v := .nilIface) (by simp only [results, Tryz.results143]; go_simp) rfl ⟨rfl, ⟨.slice A16 (n - 16) (c - 16), by go_simp, HP.out.keeps (by repeat (first | with_reducible assumption | with_reducible exact Keeps.refl _ _ | with_reducible refine Keeps.drew ?_ | with_reducible refine Keeps.drewN ?_ _ | with_reducible refine Keeps.alloc ?_ _ | with_reducible refine Keeps.setCell ?_ ?_ _ | omega | focus (simp; done) | focus (simp; omega)))⟩, by go_simp, by go_simp, by go_simp, by go_simp, by go_simp, by go_simp, by go_simp, by go_simp, by go_simp, ?_⟩
  have h0 := Below.refl X w
  exact (by repeat (first | with_reducible assumption | with_reducible refine Below.drew ?_ | with_reducible refine below_drewN' ?_ _ | with_reducible refine Below.alloc ?_ ?_ _ | with_reducible refine Below.setCell ?_ ?_ _ | with_reducible exact Nat.le_refl _ | omega | focus (simp; done) | focus (simp; omega)))

/-- A pong at X. -/
def IsAsfpong (w : World) (X : Nat) (pl : Value) (l : Lay) : Prop :=
  ∃ e p q r s t0 t1 t2 t3 pay, l = ⟨[e, b01 p, b01 q, b01 r, b01 s], [[t0, t1, t2, t3]], [], pay⟩ ∧ w.cell? ⟨X, 1, none⟩ = some pl ∧ SB w (fun _ => True) pl pay ∧ w.cell? ⟨X, 2, none⟩ = some (.int .u32 e) ∧ w.cell? ⟨X, 3, none⟩ = some (.int .u8 t0) ∧ w.cell? ⟨X, 4, none⟩ = some (.int .u8 t1) ∧ w.cell? ⟨X, 5, none⟩ = some (.int .u8 t2) ∧ w.cell? ⟨X, 6, none⟩ = some (.int .u8 t3) ∧ w.cell? ⟨X, 7, none⟩ = some (.bool p) ∧ w.cell? ⟨X, 8, none⟩ = some (.bool q) ∧ w.cell? ⟨X, 9, none⟩ = some (.bool r) ∧ w.cell? ⟨X, 10, none⟩ = some (.bool s) ∧ (0 ≤ e ∧ e < 4294967296)

set_option maxRecDepth 100000 in
set_option maxHeartbeats 1000000 in
theorem decode_asfpong {g o n c : Nat} (x0 x1 x2 x3 x4 x5 x6 x7 x8 x9 x10 x11 x12 x13 x14 x15 : Int) {rest : List Int} {w : World} (hn : n = rest.length + 16) (hc : n ≤ c) (hm : c ≤ 9223372036854775807)
    (hb : ∀ z ∈ [x0, x1, x2, x3, x4, x5, x6, x7, x8, x9, x10, x11, x12, x13, x14, x15], 0 ≤ z ∧ z ≤ 255) (hr : RowAt w (fun _ => True) (some ⟨g, o, none⟩) ((x0 :: x1 :: x2 :: x3 :: x4 :: x5 :: x6 :: x7 :: x8 :: x9 :: x10 :: x11 :: x12 :: x13 :: x14 :: x15 :: rest).map (.int .u8))) :
    Calls Tryz.prog 47 #[.string ⟨#[97, 115, 102, 112, 111, 110, 103]⟩, .slice (some ⟨g, o, none⟩) n c] w fun e w' =>
      ∃ X pl, e = .returned (.tuple #[.iface 140 (.pointer (some ⟨X, 0, none⟩)), .nilIface]) ∧ IsAsfpong w' X pl ⟨[((x0 * 256 + x1) * 256 + x2) * 256 + x3, b01 (hasBit x8 128), b01 (hasBit x8 1), b01 (hasBit x9 128), b01 (hasBit x9 32)], [[x4, x5, x6, x7]], [], rest⟩ ∧ Below w.heap.size w w' := by
  have m1 := m_asfpong
  have m2 := m_add
  have HR := Lib.hid hr
  have HB := Lib.hid hb
  have HN := Lib.hid hn
  clear hr hb hn
  go_enter Tryz.func47, Tryz.ntmps47
  have HR1 := Lib.hid (HR.out.imp (fun b hb _ => hb))
  go_wp2_with (first | (go_at_call 49; refine new_c.mono ?_; rintro e w' ⟨rfl, rfl⟩) | (go_at_call 143; refine (dfb_asfpong x0 x1 x2 x3 x4 x5 x6 x7 x8 x9 x10 x11 x12 x13 x14 x15 HN.out hc hm HB.out (by omega) (HR1.out.keeps (by repeat (first | with_reducible assumption | with_reducible exact Keeps.refl _ _ | with_reducible refine Keeps.drew ?_ | with_reducible refine Keeps.drewN ?_ _ | with_reducible refine Keeps.alloc ?_ _ | with_reducible refine Keeps.setCell ?_ ?_ _ | omega | focus (simp; done) | focus (simp; omega)))) (by (try simp only [heap_drew]); repeat (first | (with_reducible refine heap_last ?_; focus (simp; done)) | with_reducible refine heap_past ?_))).mono ?_; rintro e w1 ⟨rfl, hp, c2, c3, c4, c5, c6, c7, c8, c9, c10, hb1⟩; have HP := Lib.hid hp; clear hp; have k0 : w1.cell? ⟨w.heap.size, 0, none⟩ = some .nilIface := (hb1.cell (p := ⟨w.heap.size, 0, none⟩) (by simp; omega)).trans (by go_simp); have k1 : w1.frozen? ⟨w.heap.size, 0, none⟩ = false := (hb1.frozen (p := ⟨w.heap.size, 0, none⟩) (by simp; omega)).trans (by go_simp); have HB1 := Lib.hid hb1; clear hb1) | (go_at_call 162; refine (add_c k0 k1).mono ?_; rintro e w' ⟨rfl, rfl⟩) | (go_at_call 64; go_in) | (go_at_call 69; go_in))
  refine bodyPost_ret (v := .tuple #[.iface 140 (.pointer (some ⟨w.heap.size + 1 + 1, 0, none⟩)), .nilIface]) (by simp only [results, Tryz.results47]; go_simp) rfl ?_
  have hb := HB.out
  have hw : Below w.heap.size w w1 := by
    have h0 := Below.refl w.heap.size w
    refine Below.trans (b := _) ?_ (HB1.out.mono (by omega))
    exact (by repeat (first | with_reducible assumption | with_reducible refine Below.drew ?_ | with_reducible refine below_drewN' ?_ _ | with_reducible refine Below.alloc ?_ ?_ _ | with_reducible refine Below.setCell ?_ ?_ _ | with_reducible exact Nat.le_refl _ | omega | focus (simp; done) | focus (simp; omega)))
  have h0 := hb x0 (by simp)
  have h1 := hb x1 (by simp)
  have h2 := hb x2 (by simp)
  have h3 := hb x3 (by simp)
  have h4 := hb x4 (by simp)
  have h5 := hb x5 (by simp)
  have h6 := hb x6 (by simp)
  have h7 := hb x7 (by simp)
  have h8 := hb x8 (by simp)
  have h9 := hb x9 (by simp)
  obtain ⟨pl, c1, hs⟩ := HP.out
  refine ⟨_, pl, rfl, ⟨_, _, _, _, _, _, _, _, _, _, rfl, by go_simp, (hs.keeps (by repeat (first | with_reducible assumption | with_reducible exact Keeps.refl _ _ | with_reducible refine Keeps.drew ?_ | with_reducible refine Keeps.drewN ?_ _ | with_reducible refine Keeps.alloc ?_ _ | with_reducible refine Keeps.setCell ?_ ?_ _ | omega | focus (simp; done) | focus (simp; omega)))).imp (fun _ _ _ => trivial), by go_simp, by go_simp, by go_simp, by go_simp, by go_simp, by go_simp, by go_simp, by go_simp, by go_simp, by omega⟩, (by repeat (first | with_reducible assumption | with_reducible refine Below.drew ?_ | with_reducible refine below_drewN' ?_ _ | with_reducible refine Below.alloc ?_ ?_ _ | with_reducible refine Below.setCell ?_ ?_ _ | with_reducible exact Nat.le_refl _ | omega | focus (simp; done) | focus (simp; omega)))⟩

set_option maxRecDepth 100000 in
set_option maxHeartbeats 1000000 in
theorem decode_asfpong_short {p : Option Addr} {n c : Nat} {w : World} (hn : n < 16) :
    Calls Tryz.prog 47 #[.string ⟨#[97, 115, 102, 112, 111, 110, 103]⟩, .slice p n c] w fun e w' =>
      (∃ t v, e = .returned (.tuple #[.nilIface, .iface t v])) ∧ Below w.heap.size w w' := by
  have m1 := m_asfpong
  have m2 := m_trunc
  go_enter Tryz.func47, Tryz.ntmps47
  go_wp2_with (first | (go_at_call 49; refine new_c.mono ?_; rintro e w' ⟨rfl, rfl⟩) | (go_at_call 163; refine trunc_c.mono ?_; rintro e w' ⟨rfl, rfl⟩) | (go_at_call 64; go_in) | (go_at_call 143; go_in) | (go_at_call 69; go_in))
  refine bodyPost_ret (v := .tuple #[.nilIface, .iface 201 (.pointer (some ⟨w.heap.size + 1 + 1 + 1, 0, none⟩))]) (by simp only [results, Tryz.results47]; go_simp) rfl ?_
  have h0 := Below.refl w.heap.size w
  exact ⟨⟨_, _, rfl⟩, (by repeat (first | with_reducible assumption | with_reducible refine Below.drew ?_ | with_reducible refine below_drewN' ?_ _ | with_reducible refine Below.alloc ?_ ?_ _ | with_reducible refine Below.setCell ?_ ?_ _ | with_reducible exact Nat.le_refl _ | omega | focus (simp; done) | focus (simp; omega)))⟩

/-- The data of the bytes. -/
def dAsfpong : List Int → Option Lay
  | x0 :: x1 :: x2 :: x3 :: x4 :: x5 :: x6 :: x7 :: x8 :: x9 :: _ :: _ :: _ :: _ :: _ :: _ :: rest => some ⟨[((x0 * 256 + x1) * 256 + x2) * 256 + x3, b01 (hasBit x8 128), b01 (hasBit x8 1), b01 (hasBit x9 128), b01 (hasBit x9 32)], [[x4, x5, x6, x7]], [], rest⟩
  | _ => none

set_option maxHeartbeats 2000000 in
theorem decOf_asfpong {bs : List Int} (hb : ∀ z ∈ bs, 0 ≤ z ∧ z ≤ 255) : DecOf (.string ⟨#[97, 115, 102, 112, 111, 110, 103]⟩) bs (dAsfpong bs) 140 IsAsfpong := by
  intro v w h
  obtain ⟨p, c, rfl, hnc, hc, hp, hr⟩ := h
  match bs, hb, hnc, hr with
  | x0 :: x1 :: x2 :: x3 :: x4 :: x5 :: x6 :: x7 :: x8 :: x9 :: x10 :: x11 :: x12 :: x13 :: x14 :: x15 :: rest, hb, hnc, hr =>
    rcases hr with h | ⟨b, o, rfl, h1, h2, h3⟩
    · simp at h
    · refine (decode_asfpong x0 x1 x2 x3 x4 x5 x6 x7 x8 x9 x10 x11 x12 x13 x14 x15 (rest := rest) (by simp) hnc hc (fun z hz => hb z (List.mem_append_left rest hz)) (.inr ⟨b, o, rfl, h1, h2, h3⟩)).mono ?_
      rintro e w' ⟨X, pl, he, hi, hb⟩
      exact ⟨hb, .inr ⟨_, X, pl, rfl, he, hi⟩⟩
  | [], _, _, _ => exact (decode_asfpong_short (by simp)).mono fun e w' h => ⟨h.2, .inl ⟨rfl, h.1⟩⟩
  | [_], _, _, _ => exact (decode_asfpong_short (by simp)).mono fun e w' h => ⟨h.2, .inl ⟨rfl, h.1⟩⟩
  | [_, _], _, _, _ => exact (decode_asfpong_short (by simp)).mono fun e w' h => ⟨h.2, .inl ⟨rfl, h.1⟩⟩
  | [_, _, _], _, _, _ => exact (decode_asfpong_short (by simp)).mono fun e w' h => ⟨h.2, .inl ⟨rfl, h.1⟩⟩
  | [_, _, _, _], _, _, _ => exact (decode_asfpong_short (by simp)).mono fun e w' h => ⟨h.2, .inl ⟨rfl, h.1⟩⟩
  | [_, _, _, _, _], _, _, _ => exact (decode_asfpong_short (by simp)).mono fun e w' h => ⟨h.2, .inl ⟨rfl, h.1⟩⟩
  | [_, _, _, _, _, _], _, _, _ => exact (decode_asfpong_short (by simp)).mono fun e w' h => ⟨h.2, .inl ⟨rfl, h.1⟩⟩
  | [_, _, _, _, _, _, _], _, _, _ => exact (decode_asfpong_short (by simp)).mono fun e w' h => ⟨h.2, .inl ⟨rfl, h.1⟩⟩
  | [_, _, _, _, _, _, _, _], _, _, _ => exact (decode_asfpong_short (by simp)).mono fun e w' h => ⟨h.2, .inl ⟨rfl, h.1⟩⟩
  | [_, _, _, _, _, _, _, _, _], _, _, _ => exact (decode_asfpong_short (by simp)).mono fun e w' h => ⟨h.2, .inl ⟨rfl, h.1⟩⟩
  | [_, _, _, _, _, _, _, _, _, _], _, _, _ => exact (decode_asfpong_short (by simp)).mono fun e w' h => ⟨h.2, .inl ⟨rfl, h.1⟩⟩
  | [_, _, _, _, _, _, _, _, _, _, _], _, _, _ => exact (decode_asfpong_short (by simp)).mono fun e w' h => ⟨h.2, .inl ⟨rfl, h.1⟩⟩
  | [_, _, _, _, _, _, _, _, _, _, _, _], _, _, _ => exact (decode_asfpong_short (by simp)).mono fun e w' h => ⟨h.2, .inl ⟨rfl, h.1⟩⟩
  | [_, _, _, _, _, _, _, _, _, _, _, _, _], _, _, _ => exact (decode_asfpong_short (by simp)).mono fun e w' h => ⟨h.2, .inl ⟨rfl, h.1⟩⟩
  | [_, _, _, _, _, _, _, _, _, _, _, _, _, _], _, _, _ => exact (decode_asfpong_short (by simp)).mono fun e w' h => ⟨h.2, .inl ⟨rfl, h.1⟩⟩
  | [_, _, _, _, _, _, _, _, _, _, _, _, _, _, _], _, _, _ => exact (decode_asfpong_short (by simp)).mono fun e w' h => ⟨h.2, .inl ⟨rfl, h.1⟩⟩

theorem isAsfpong_below {w w' : World} {X : Nat} {pl : Value} {l : Lay} (k : Below w.heap.size w w') (h : IsAsfpong w X pl l) : IsAsfpong w' X pl l := by
  obtain ⟨e, p, q, r, s, t0, t1, t2, t3, pay, rfl, c1, hp, c2, c3, c4, c5, c6, c7, c8, c9, c10, b0⟩ := h
  have hc : ∀ j u, w.cell? ⟨X, j, none⟩ = some u → w'.cell? ⟨X, j, none⟩ = some u := fun j u hu => (k.cell (p := ⟨X, j, none⟩) (World.block_lt_of_cell? _ _ hu)).trans hu
  exact ⟨e, p, q, r, s, t0, t1, t2, t3, pay, rfl, hc _ _ c1, hp.keeps (Keeps.of_below k), hc _ _ c2, hc _ _ c3, hc _ _ c4, hc _ _ c5, hc _ _ c6, hc _ _ c7, hc _ _ c8, hc _ _ c9, hc _ _ c10, b0⟩
theorem isAsfpong_pl {w : World} {X : Nat} {pl : Value} {l : Lay} (h : IsAsfpong w X pl l) : w.cell? ⟨X, 1, none⟩ = some pl := by
  obtain ⟨e, p, q, r, s, t0, t1, t2, t3, pay, rfl, c1, _⟩ := h
  exact c1
end Go.Proofs.YtaejicpdaldpiaaGreat
