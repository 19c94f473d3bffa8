/-
  The decoder of fragment.
-/
import Derived.Test.YtaofambmajlhmaaRead
import Derived.Test.YtaofambmajlhmaaBits
namespace Go.Proofs.Ytaofambmajlhmaa
open Go Go.RowKit

theorem and6' : ∀ k : Fin 256, bits BinOp.and IntKind.u8 ((k : Nat) : Int) 6 / 2 = ((k : Nat) : Int) / 2 % 4 := by decide +kernel
theorem and6 {x : Int} (h : 0 ≤ x ∧ x ≤ 255) : bits BinOp.and IntKind.u8 x 6 / 2 = x / 2 % 4 := by
  obtain ⟨k, rfl⟩ := Int.eq_ofNat_of_zero_le h.1
  exact and6' ⟨k, by omega⟩
theorem wrap_and3' : ∀ k : Fin 256, IntKind.u64.wrap (bits BinOp.and IntKind.u8 ((k : Nat) : Int) 3) = ((k : Nat) : Int) % 4 := by decide +kernel
theorem wrap_and3 {x : Int} (h : 0 ≤ x ∧ x ≤ 255) : IntKind.u64.wrap (bits BinOp.and IntKind.u8 x 3) = x % 4 := by
  obtain ⟨k, rfl⟩ := Int.eq_ofNat_of_zero_le h.1
  exact wrap_and3' ⟨k, by omega⟩

/-- A fragment at X. -/
def IsFragment (w : World) (X : Nat) (pl : Value) (l : Lay) : Prop :=
  ∃ a b f r m i pay, l = ⟨[a, b, f, r, b01 m, i], [], [], pay⟩ ∧ w.cell? ⟨X, 1, none⟩ = some pl ∧ SB w (fun _ => True) pl pay ∧ w.cell? ⟨X, 2, none⟩ = some (.int .u8 a) ∧ w.cell? ⟨X, 3, none⟩ = some (.int .u8 b) ∧ w.cell? ⟨X, 4, none⟩ = some (.int .u16 f) ∧ w.cell? ⟨X, 5, none⟩ = some (.int .u8 r) ∧ w.cell? ⟨X, 6, none⟩ = some (.bool m) ∧ w.cell? ⟨X, 7, none⟩ = some (.int .u32 i) ∧ (0 ≤ a ∧ a ≤ 255) ∧ (0 ≤ b ∧ b ≤ 255) ∧ (0 ≤ f ∧ f < 65536) ∧ (0 ≤ r ∧ r ≤ 255) ∧ (0 ≤ i ∧ i < 4294967296)

set_option maxRecDepth 100000 in
set_option maxHeartbeats 1000000 in
theorem decode_fragment {g o n c : Nat} (x0 x1 x2 x3 x4 x5 x6 x7 : Int) {rest : List Int} {w : World} (hn : n = rest.length + 8) (hc : n ≤ c) (hm : c ≤ 9223372036854775807)
    (hb : ∀ z ∈ [x0, x1, x2, x3, x4, x5, x6, x7], 0 ≤ z ∧ z ≤ 255) (hr : RowAt w (fun _ => True) (some ⟨g, o, none⟩) ((x0 :: x1 :: x2 :: x3 :: x4 :: x5 :: x6 :: x7 :: rest).map (.int .u8))) :
    Calls Try.prog 42 #[.string ⟨#[102, 114, 97, 103, 109, 101, 110, 116]⟩, .slice (some ⟨g, o, none⟩) n c] w fun e w' =>
      ∃ X pl, e = .returned (.tuple #[.iface 64 (.pointer (some ⟨X, 0, none⟩)), .nilIface]) ∧ IsFragment w' X pl ⟨[x0, x1, (x2 * 256 + x3) / 8, x3 / 2 % 4, b01 (hasBit x3 1), ((x4 * 256 + x5) * 256 + x6) * 256 + x7], [], [], rest⟩ ∧ Below w.heap.size w w' := by
  have hnm : 8 ≤ n := by omega
  have m2 := m_add
  have b2 : (2 : Int) ≤ (c : Int) := by omega
  have b4 : (4 : Int) ≤ (c : Int) := by omega
  have b8 : (8 : Int) ≤ (c : Int) := by omega
  have e2 : ¬ (c = 2) := by omega
  have e4 : ¬ (c = 4) := by omega
  have HN := Lib.hid hn
  clear hn
  obtain ⟨A8, hA8⟩ : ∃ A, (if c = 8 then some (⟨g, o, none⟩ : Addr) else some ⟨g, o + 8, none⟩) = A := ⟨_, rfl⟩
  have hP := SB.tail (n := n) hr (by simpa using HN.out) hnm hc hm hA8
  obtain ⟨hg, hcell⟩ := rowCells hr (by simp)
  have c0 := hcell 0 _ (by simp; rfl)
  have c1 := hcell 1 _ (by simp; rfl)
  have c2 := hcell 2 _ (by simp; rfl)
  have c3 := hcell 3 _ (by simp; rfl)
  have c4 := hcell 4 _ (by simp; rfl)
  have c5 := hcell 5 _ (by simp; rfl)
  have c6 := hcell 6 _ (by simp; rfl)
  have c7 := hcell 7 _ (by simp; rfl)
  rw [Nat.add_zero] at c0
  have h0 := hb x0 (by simp)
  have h1 := hb x1 (by simp)
  have h2 := hb x2 (by simp)
  have h3 := hb x3 (by simp)
  have h4 := hb x4 (by simp)
  have h5 := hb x5 (by simp)
  have h6 := hb x6 (by simp)
  have h7 := hb x7 (by simp)
  have lg1 : g < w.heap.size + 1 := by omega
  have lg2 : g < w.heap.size + 1 + 1 := by omega
  have lg3 : g < w.heap.size + 1 + 1 + 1 := by omega
  have lg4 : g < w.heap.size + 1 + 1 + 1 + 1 := by omega
  have HP := Lib.hid hP
  clear hP
  clear hr hcell hb
  go_enter Try.func42, Try.ntmps42
  go_wp2_with (first | (go_at_call 46; refine new_c.mono ?_; rintro e w' ⟨rfl, rfl⟩) | (go_at_call 47; go_in))
  refine wp_region_same [] (.q 0 (.q 1 (.q 2 (.q 3 (.q 4 (.q 5 (.q 6 (.q 7 (.q 8 (.q 9 (.q 10 (.q 11 (.q 12 (.q 13 (.q 16 (.q 17 (.q 18 (.q 19 (.q 20 (.q 21 (.q 22 (.q 23 (.q 24 (.q 25 (.q 26 (.q 27 (.q 28 (.l 14 (.q 15 (.l 29 (.q 30 (.l 31 (.q 32 .done) .stop)) .stop)) .stop)))))))))))))))))))))))))))) (by kernel_rfl) (by kernel_rfl) (fun _ _ d _ _ h => by cases d <;> exact h) (by simp only [Ord.fill, nthOp]; rfl) ?_; intro hSm
  repeat
    first | refine lexO_pass rfl ?_ | (refine lexO_take2 ?_ rfl (by kernel_rfl) (by with_reducible assumption) (fun w' hS K Q' hK => ?_) ?_; rotate_left; focus (have hS2 := hS.2; clear hS; go_wp2_with fail; exact hK))
  refine lexO_do rfl (fun K hK => ?_) lexO_stop
  go_wp2_with (go_at_call 63; refine (u16_c x2 x3 (by omega) h2 h3 (by go_simp) (by go_simp)).mono ?_; rintro e w' ⟨rfl, rfl⟩)
  refine step_and (by repeat (first | with_reducible assumption | with_reducible exact SameAt.refl _ | with_reducible refine SameAt.drew ?_ | with_reducible refine SameAt.alloc ?_ _ | (refine SameAt.below ?_ (by with_reducible assumption)))) (fun _ => ?_)
  repeat
    first | refine lexO_pass rfl ?_ | (refine lexO_take2 ?_ rfl (by kernel_rfl) (by with_reducible assumption) (fun w' hS K Q' hK => ?_) ?_; rotate_left; focus (have hS2 := hS.2; clear hS; go_wp2_with fail; exact hK))
  refine lexO_do rfl (fun K hK => ?_) lexO_stop
  go_wp2_with (go_at_call 64; refine (u32_c x4 x5 x6 x7 (by omega) h4 h5 h6 h7 (by go_simp) (by go_simp) (by go_simp) (by go_simp)).mono ?_; rintro e w' ⟨rfl, rfl⟩)
  refine step_and (by repeat (first | with_reducible assumption | with_reducible exact SameAt.refl _ | with_reducible refine SameAt.drew ?_ | with_reducible refine SameAt.alloc ?_ _ | (refine SameAt.below ?_ (by with_reducible assumption)))) (fun _ => ?_)
  repeat
    first | refine lexO_pass rfl ?_ | (refine lexO_take2 ?_ rfl (by kernel_rfl) (by with_reducible assumption) (fun w' hS K Q' hK => ?_) ?_; rotate_left; focus (have hS2 := hS.2; clear hS; go_wp2_with fail; exact hK))
  refine lexO_do rfl (fun K hK => ?_) lexO_stop
  go_wp2_with fail
  refine step_and (by repeat (first | with_reducible assumption | with_reducible exact SameAt.refl _ | with_reducible refine SameAt.drew ?_ | with_reducible refine SameAt.alloc ?_ _ | (refine SameAt.below ?_ (by with_reducible assumption)))) (fun _ => ?_)
  repeat
    first | refine lexO_pass rfl ?_ | (refine lexO_take2 ?_ rfl (by kernel_rfl) (by with_reducible assumption) (fun w' hS K Q' hK => ?_) ?_; rotate_left; focus (have hS2 := hS.2; clear hS; go_wp2_with fail; exact hK))
  refine lexO_done ?_
  go_wp2_with (go_at_call 125; refine (add_c (x := .nilIface) (by go_simp) (by go_simp)).mono ?_; rintro e w' ⟨rfl, rfl⟩)
  simp only [hasBit_def]
  rw [and6 h3]
  refine bodyPost_ret (v := .tuple #[.iface 64 (.pointer (some ⟨w.heap.size + 1 + 1 + 1 + 1, 0, none⟩)), .nilIface]) (by simp only [results, Try.results42]; go_simp) rfl ?_
  have h0 := Below.refl w.heap.size w
  have hs : SB w (fun b => b < w.heap.size) (.slice A8 (n - 8) (c - 8)) rest := HP.out.imp (fun b hb _ => hb)
  refine ⟨_, .slice A8 (n - 8) (c - 8), rfl, ⟨_, _, _, _, _, _, _, rfl, by go_simp, (hs.keeps (by repeat (first | with_reducible assumption | with_reducible exact Keeps.refl _ _ | with_reducible refine Keeps.drew ?_ | with_reducible refine Keeps.alloc ?_ _ | with_reducible refine Keeps.setCell ?_ ?_ _ | omega | focus (simp; done) | focus (simp; omega)))).imp (fun _ _ _ => trivial), by go_simp, by go_simp, by go_simp, by go_simp, by go_simp, by go_simp, by omega, by omega, by omega, by omega, by omega⟩, (by repeat (first | with_reducible assumption | with_reducible refine Below.drew ?_ | with_reducible refine Below.alloc ?_ ?_ _ | with_reducible refine Below.setCell ?_ ?_ _ | with_reducible exact Nat.le_refl _ | omega | focus (simp; done) | focus (simp; omega)))⟩

set_option maxRecDepth 100000 in
set_option maxHeartbeats 1000000 in
theorem decode_fragment_short {p : Option Addr} {n c : Nat} {w : World} (hn : n < 8) :
    Calls Try.prog 42 #[.string ⟨#[102, 114, 97, 103, 109, 101, 110, 116]⟩, .slice p n c] w fun e w' =>
      (∃ t v, e = .returned (.tuple #[.nilIface, .iface t v])) ∧ Below w.heap.size w w' := by
  have m2 := m_trunc
  go_enter Try.func42, Try.ntmps42
  go_wp2_with (first | (go_at_call 46; refine new_c.mono ?_; rintro e w' ⟨rfl, rfl⟩) | (go_at_call 126; refine trunc_c.mono ?_; rintro e w' ⟨rfl, rfl⟩) | (go_at_call 47; go_in))
  refine bodyPost_ret (v := .tuple #[.nilIface, .iface 178 (.pointer (some ⟨w.heap.size + 1 + 1, 0, none⟩))]) (by simp only [results, Try.results42]; go_simp) rfl ?_
  have h0 := Below.refl w.heap.size w
  exact ⟨⟨_, _, rfl⟩, (by repeat (first | with_reducible assumption | with_reducible refine Below.drew ?_ | with_reducible refine Below.alloc ?_ ?_ _ | with_reducible refine Below.setCell ?_ ?_ _ | with_reducible exact Nat.le_refl _ | omega | focus (simp; done) | focus (simp; omega)))⟩

/-- The data of the bytes. -/
def dFragment : List Int → Option Lay
  | x0 :: x1 :: x2 :: x3 :: x4 :: x5 :: x6 :: x7 :: rest => some ⟨[x0, x1, (x2 * 256 + x3) / 8, x3 / 2 % 4, b01 (hasBit x3 1), ((x4 * 256 + x5) * 256 + x6) * 256 + x7], [], [], rest⟩
  | _ => none

set_option maxHeartbeats 2000000 in
theorem decOf_fragment {bs : List Int} (hb : ∀ z ∈ bs, 0 ≤ z ∧ z ≤ 255) : DecOf (.string ⟨#[102, 114, 97, 103, 109, 101, 110, 116]⟩) bs (dFragment bs) 64 IsFragment := by
  intro v w h
  obtain ⟨p, c, rfl, hnc, hc, hp, hr⟩ := h
  match bs, hb, hnc, hr with
  | x0 :: x1 :: x2 :: x3 :: x4 :: x5 :: x6 :: x7 :: rest, hb, hnc, hr =>
    rcases hr with h | ⟨b, o, rfl, h1, h2, h3⟩
    · simp at h
    · refine (decode_fragment x0 x1 x2 x3 x4 x5 x6 x7 (rest := rest) (by simp) hnc hc (fun z hz => hb z (List.mem_append_left rest hz)) (.inr ⟨b, o, rfl, h1, h2, h3⟩)).mono ?_
      rintro e w' ⟨X, pl, he, hi, hb⟩
      exact ⟨hb, .inr ⟨_, X, pl, rfl, he, hi⟩⟩
  | [], _, _, _ => exact (decode_fragment_short (by simp)).mono fun e w' h => ⟨h.2, .inl ⟨rfl, h.1⟩⟩
  | [_], _, _, _ => exact (decode_fragment_short (by simp)).mono fun e w' h => ⟨h.2, .inl ⟨rfl, h.1⟩⟩
  | [_, _], _, _, _ => exact (decode_fragment_short (by simp)).mono fun e w' h => ⟨h.2, .inl ⟨rfl, h.1⟩⟩
  | [_, _, _], _, _, _ => exact (decode_fragment_short (by simp)).mono fun e w' h => ⟨h.2, .inl ⟨rfl, h.1⟩⟩
  | [_, _, _, _], _, _, _ => exact (decode_fragment_short (by simp)).mono fun e w' h => ⟨h.2, .inl ⟨rfl, h.1⟩⟩
  | [_, _, _, _, _], _, _, _ => exact (decode_fragment_short (by simp)).mono fun e w' h => ⟨h.2, .inl ⟨rfl, h.1⟩⟩
  | [_, _, _, _, _, _], _, _, _ => exact (decode_fragment_short (by simp)).mono fun e w' h => ⟨h.2, .inl ⟨rfl, h.1⟩⟩
  | [_, _, _, _, _, _, _], _, _, _ => exact (decode_fragment_short (by simp)).mono fun e w' h => ⟨h.2, .inl ⟨rfl, h.1⟩⟩

theorem isFragment_below {w w' : World} {X : Nat} {pl : Value} {l : Lay} (k : Below w.heap.size w w') (h : IsFragment w X pl l) : IsFragment w' X pl l := by
  obtain ⟨a, b, f, r, m, i, pay, rfl, c1, hp, c2, c3, c4, c5, c6, c7, b0, b1, b2, b3, b4⟩ := h
  have hc : ∀ j u, w.cell? ⟨X, j, none⟩ = some u → w'.cell? ⟨X, j, none⟩ = some u := fun j u hu => (k.cell (p := ⟨X, j, none⟩) (World.block_lt_of_cell? _ _ hu)).trans hu
  exact ⟨a, b, f, r, m, i, pay, rfl, hc _ _ c1, hp.keeps (Keeps.of_below k), hc _ _ c2, hc _ _ c3, hc _ _ c4, hc _ _ c5, hc _ _ c6, hc _ _ c7, b0, b1, b2, b3, b4⟩
theorem isFragment_pl {w : World} {X : Nat} {pl : Value} {l : Lay} (h : IsFragment w X pl l) : w.cell? ⟨X, 1, none⟩ = some pl := by
  obtain ⟨a, b, f, r, m, i, pay, rfl, c1, _⟩ := h
  exact c1
end Go.Proofs.Ytaofambmajlhmaa
