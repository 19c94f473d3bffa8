/-
  The decoder of rmcp.
-/
import Derived.Test.YtmpifdanfnebpaaGreatRead
namespace Go.Proofs.YtmpifdanfnebpaaGreat
open Go Go.RowKit

theorem m_rmcp (k : Nat) (a : Addr) (w : World) : (method (k + 1) 130 (.pointer (some a)) "DecodeFromBytes").run Tryz.prog w = .ok (62, .pointer (some a)) w := by kernel_rfl

set_option maxRecDepth 100000 in
set_option maxHeartbeats 1000000 in
theorem dfb_rmcp {B X g o n c : Nat} {kv : Value} (x0 x1 x2 x3 : Int) {rest : List Int} {w : World} (hn : n = rest.length + 4) (hc : n ≤ c) (hm : c ≤ 9223372036854775807)
    (hb : ∀ z ∈ [x0, x1, x2, x3], 0 ≤ z ∧ z ≤ 255) (hBX : B ≤ X) (hr : RowAt w (· < B) (some ⟨g, o, none⟩) ((x0 :: x1 :: x2 :: x3 :: rest).map (.int .u8)))
    (hX : w.heap[X]? = some (.cells #[.slice none 0 0, .slice none 0 0, .int .u8 0, .int .u8 0, .bool false, .int .u8 0] 133 (0, 0))) :
    Calls Tryz.prog 62 #[.pointer (some ⟨X, 0, none⟩), .slice (some ⟨g, o, none⟩) n c, kv] w fun e w' =>
      e = .returned .nilIface ∧ (∃ pl, w'.cell? ⟨X, 1, none⟩ = some pl ∧ SB w' (· < B) pl rest) ∧ w'.cell? ⟨X, 2, none⟩ = some (.int .u8 x0) ∧
        w'.cell? ⟨X, 3, none⟩ = some (.int .u8 x2) ∧ w'.cell? ⟨X, 4, none⟩ = some (.bool (decide (128 ≤ x3))) ∧ w'.cell? ⟨X, 5, none⟩ = some (.int .u8 (x3 % 16)) ∧ Below X w w' := by
  have hn4 : 4 ≤ n := by omega
  have HN := Lib.hid hn
  clear hn
  obtain ⟨A4, hA4⟩ : ∃ A, (if c = 4 then some (⟨g, o, none⟩ : Addr) else some ⟨g, o + 4, none⟩) = A := ⟨_, rfl⟩
  have hP := SB.tail (n := n) hr (by simpa using HN.out) hn4 hc hm hA4
  obtain ⟨hg, hcell⟩ := rowCells hr (by simp)
  have hgX : g ≠ X := by
    rcases hr with h | ⟨b, o', hp, hb, _, _⟩
    · simp at h
    · simp only [Option.some.injEq, Addr.mk.injEq, and_true] at hp
      have : g < B := hp.1 ▸ hb
      omega
  have c0 := hcell 0 _ (by simp; rfl)
  have c1 := hcell 1 _ (by simp; rfl)
  have c2 := hcell 2 _ (by simp; rfl)
  have c3 := hcell 3 _ (by simp; rfl)
  rw [Nat.add_zero] at c0
  have h0 := hb x0 (by simp)
  have h1 := hb x1 (by simp)
  have h2 := hb x2 (by simp)
  have h3 := hb x3 (by simp)
  have d0 : w.cell? ⟨X, 0, none⟩ = some (.slice none 0 0) := by simp [World.cell?, hX]
  have d1 : w.cell? ⟨X, 1, none⟩ = some (.slice none 0 0) := by simp [World.cell?, hX]
  have d2 : w.cell? ⟨X, 2, none⟩ = some (.int .u8 0) := by simp [World.cell?, hX]
  have d3 : w.cell? ⟨X, 3, none⟩ = some (.int .u8 0) := by simp [World.cell?, hX]
  have d4 : w.cell? ⟨X, 4, none⟩ = some (.bool false) := by simp [World.cell?, hX]
  have d5 : w.cell? ⟨X, 5, none⟩ = some (.int .u8 0) := by simp [World.cell?, hX]
  have f0 : w.frozen? ⟨X, 0, none⟩ = false := by simp [World.frozen?, hX]
  have f1 : w.frozen? ⟨X, 1, none⟩ = false := by simp [World.frozen?, hX]
  have f2 : w.frozen? ⟨X, 2, none⟩ = false := by simp [World.frozen?, hX]
  have f3 : w.frozen? ⟨X, 3, none⟩ = false := by simp [World.frozen?, hX]
  have f4 : w.frozen? ⟨X, 4, none⟩ = false := by simp [World.frozen?, hX]
  have f5 : w.frozen? ⟨X, 5, none⟩ = false := by simp [World.frozen?, hX]
  have lX : X < w.heap.size := (Array.getElem?_eq_some_iff.1 hX).1
  have HX := Lib.hid hX
  have HP := Lib.hid hP
  clear hr hcell hb hP hX
  go_enter Tryz.func62, Tryz.ntmps62
  go_wp2
  rw [top_u8 h3]
  refine bodyPost_ret (v := .nilIface) (by simp only [results, Tryz.results62]; go_simp) rfl ⟨rfl, ⟨.slice A4 (n - 4) (c - 4), by go_simp, ?_⟩, by go_simp, by go_simp, by go_simp, by go_simp, ?_⟩
  · exact HP.out.keeps (by repeat (first | with_reducible assumption | with_reducible exact Keeps.refl _ _ | with_reducible refine Keeps.drew ?_ | with_reducible refine Keeps.drewN ?_ _ | with_reducible refine Keeps.alloc ?_ _ | with_reducible refine Keeps.setCell ?_ ?_ _ | omega | focus (simp; done) | focus (simp; omega)))
  · have h0 := Below.refl X w
    exact (by repeat (first | with_reducible assumption | with_reducible refine Below.drew ?_ | with_reducible refine below_drewN' ?_ _ | with_reducible refine Below.alloc ?_ ?_ _ | with_reducible refine Below.setCell ?_ ?_ _ | with_reducible exact Nat.le_refl _ | omega | focus (simp; done) | focus (simp; omega)))

/-- An RMCP at X. -/
def IsRmcp (w : World) (X : Nat) (pl : Value) (l : Lay) : Prop :=
  ∃ v s k d pay, l = ⟨[v, s, b01 k, d], [], [], pay⟩ ∧ w.cell? ⟨X, 1, none⟩ = some pl ∧ SB w (fun _ => True) pl pay ∧ w.cell? ⟨X, 2, none⟩ = some (.int .u8 v) ∧ w.cell? ⟨X, 3, none⟩ = some (.int .u8 s) ∧
    w.cell? ⟨X, 4, none⟩ = some (.bool k) ∧ w.cell? ⟨X, 5, none⟩ = some (.int .u8 d) ∧ (0 ≤ v ∧ v ≤ 255) ∧ (0 ≤ s ∧ s ≤ 255) ∧ (0 ≤ d ∧ d ≤ 255)

set_option maxRecDepth 100000 in
set_option maxHeartbeats 1000000 in
theorem decode_rmcp {g o n c : Nat} (x0 x1 x2 x3 : Int) {rest : List Int} {w : World} (hn : n = rest.length + 4) (hc : n ≤ c) (hm : c ≤ 9223372036854775807)
    (hb : ∀ z ∈ [x0, x1, x2, x3], 0 ≤ z ∧ z ≤ 255) (hr : RowAt w (fun _ => True) (some ⟨g, o, none⟩) ((x0 :: x1 :: x2 :: x3 :: rest).map (.int .u8))) :
    Calls Tryz.prog 36 #[.string ⟨#[114, 109, 99, 112]⟩, .slice (some ⟨g, o, none⟩) n c] w fun e w' =>
      ∃ X pl, e = .returned (.tuple #[.iface 130 (.pointer (some ⟨X, 0, none⟩)), .nilIface]) ∧ IsRmcp w' X pl ⟨[x0, x2, b01 (decide (128 ≤ x3)), x3 % 16], [], [], rest⟩ ∧ Below w.heap.size w w' := by
  have m1 := m_rmcp
  have m2 := m_add
  have HR := Lib.hid hr
  have HB := Lib.hid hb
  have HN := Lib.hid hn
  clear hr hb hn
  go_enter Tryz.func36, Tryz.ntmps36
  have HR1 := Lib.hid (HR.out.imp (fun b hb _ => hb))
  go_wp2_with (first | (go_at_call 38; refine new_c.mono ?_; rintro e w' ⟨rfl, rfl⟩) | (go_at_call 62; refine (dfb_rmcp x0 x1 x2 x3 HN.out hc hm HB.out (by omega) (HR1.out.keeps (by repeat (first | with_reducible assumption | with_reducible exact Keeps.refl _ _ | with_reducible refine Keeps.drew ?_ | with_reducible refine Keeps.drewN ?_ _ | with_reducible refine Keeps.alloc ?_ _ | with_reducible refine Keeps.setCell ?_ ?_ _ | omega | focus (simp; done) | focus (simp; omega)))) (by (try simp only [heap_drew]); repeat (first | (with_reducible refine heap_last ?_; focus (simp; done)) | with_reducible refine heap_past ?_))).mono ?_; rintro e w1 ⟨rfl, hp, c2, c3, c4, c5, hb1⟩; have HP := Lib.hid hp; have k0 : w1.cell? ⟨w.heap.size, 0, none⟩ = some .nilIface := (hb1.cell (p := ⟨w.heap.size, 0, none⟩) (by simp; omega)).trans (by go_simp); have k1 : w1.frozen? ⟨w.heap.size, 0, none⟩ = false := (hb1.frozen (p := ⟨w.heap.size, 0, none⟩) (by simp; omega)).trans (by go_simp); have HB1 := Lib.hid hb1; clear hp hb1) | (go_at_call 151; refine (add_c k0 k1).mono ?_; rintro e w' ⟨rfl, rfl⟩) | (go_at_call 51; go_in) | fail)
  refine bodyPost_ret (v := .tuple #[.iface 130 (.pointer (some ⟨w.heap.size + 1 + 1, 0, none⟩)), .nilIface]) (by simp only [results, Tryz.results36]; go_simp) rfl ?_
  obtain ⟨pl, c1, hs⟩ := HP.out
  have hb := HB.out
  have h0' := hb x0 (by simp)
  have h3 := hb x3 (by simp)
  have hw : Below w.heap.size w w1 := by
    have h0 := Below.refl w.heap.size w
    refine Below.trans (b := _) ?_ (HB1.out.mono (by omega))
    exact (by repeat (first | with_reducible assumption | with_reducible refine Below.drew ?_ | with_reducible refine below_drewN' ?_ _ | with_reducible refine Below.alloc ?_ ?_ _ | with_reducible refine Below.setCell ?_ ?_ _ | with_reducible exact Nat.le_refl _ | omega | focus (simp; done) | focus (simp; omega)))
  refine ⟨_, pl, rfl, ⟨_, _, _, _, _, rfl, by go_simp, ?_, by go_simp, by go_simp, by go_simp, by go_simp, h0', hb x2 (by simp), by omega⟩, (by repeat (first | with_reducible assumption | with_reducible refine Below.drew ?_ | with_reducible refine below_drewN' ?_ _ | with_reducible refine Below.alloc ?_ ?_ _ | with_reducible refine Below.setCell ?_ ?_ _ | with_reducible exact Nat.le_refl _ | omega | focus (simp; done) | focus (simp; omega)))⟩
  exact (hs.keeps (by repeat (first | with_reducible assumption | with_reducible exact Keeps.refl _ _ | with_reducible refine Keeps.drew ?_ | with_reducible refine Keeps.drewN ?_ _ | with_reducible refine Keeps.alloc ?_ _ | with_reducible refine Keeps.setCell ?_ ?_ _ | omega | focus (simp; done) | focus (simp; omega)))).imp (fun _ _ _ => trivial)

set_option maxRecDepth 100000 in
set_option maxHeartbeats 1000000 in
theorem decode_rmcp_short {p : Option Addr} {n c : Nat} {w : World} (hn : n < 4) :
    Calls Tryz.prog 36 #[.string ⟨#[114, 109, 99, 112]⟩, .slice p n c] w fun e w' =>
      (∃ t v, e = .returned (.tuple #[.nilIface, .iface t v])) ∧ Below w.heap.size w w' := by
  have m1 := m_rmcp
  have m2 := m_trunc
  have m3 := m_add
  go_enter Tryz.func36, Tryz.ntmps36
  go_wp2_with (first | (go_at_call 38; refine new_c.mono ?_; rintro e w' ⟨rfl, rfl⟩) | (go_at_call 152; refine trunc_c.mono ?_; rintro e w' ⟨rfl, rfl⟩) | (go_at_call 51; go_in) | (go_at_call 62; go_in) | (go_at_call 151; refine (add_c (x := .nilIface) (by go_simp) (by go_simp)).mono ?_; rintro e w' ⟨rfl, rfl⟩))
  refine bodyPost_ret (v := .tuple #[.nilIface, .iface 201 (.pointer (some ⟨w.heap.size + 1 + 1 + 1, 0, none⟩))]) (by simp only [results, Tryz.results36]; go_simp) rfl ?_
  have h0 := Below.refl w.heap.size w
  exact ⟨⟨_, _, rfl⟩, (by repeat (first | with_reducible assumption | with_reducible refine Below.drew ?_ | with_reducible refine below_drewN' ?_ _ | with_reducible refine Below.alloc ?_ ?_ _ | with_reducible refine Below.setCell ?_ ?_ _ | with_reducible exact Nat.le_refl _ | omega | focus (simp; done) | focus (simp; omega)))⟩

/-- The data of the bytes. -/
def dRmcp : List Int → Option Lay
  | x0 :: _ :: x2 :: x3 :: rest => some ⟨[x0, x2, b01 (decide (128 ≤ x3)), x3 % 16], [], [], rest⟩
  | _ => none

theorem decOf_rmcp {bs : List Int} (hb : ∀ z ∈ bs, 0 ≤ z ∧ z ≤ 255) : DecOf (.string ⟨#[114, 109, 99, 112]⟩) bs (dRmcp bs) 130 IsRmcp := by
  intro v w h
  obtain ⟨p, c, rfl, hnc, hc, hp, hr⟩ := h
  match bs, hb, hnc, hr with
  | x0 :: x1 :: x2 :: x3 :: rest, hb, hnc, hr =>
    rcases hr with h | ⟨b, o, rfl, h1, h2, h3⟩
    · simp at h
    · refine (decode_rmcp x0 x1 x2 x3 (rest := rest) (by simp) hnc hc (fun z hz => hb z (by simp at hz ⊢; omega)) (.inr ⟨b, o, rfl, h1, h2, h3⟩)).mono ?_
      rintro e w' ⟨X, pl, he, hi, hb⟩
      exact ⟨hb, .inr ⟨_, X, pl, rfl, he, hi⟩⟩
  | [], _, _, _ => exact (decode_rmcp_short (by simp)).mono fun e w' h => ⟨h.2, .inl ⟨rfl, h.1⟩⟩
  | [_], _, _, _ => exact (decode_rmcp_short (by simp)).mono fun e w' h => ⟨h.2, .inl ⟨rfl, h.1⟩⟩
  | [_, _], _, _, _ => exact (decode_rmcp_short (by simp)).mono fun e w' h => ⟨h.2, .inl ⟨rfl, h.1⟩⟩
  | [_, _, _], _, _, _ => exact (decode_rmcp_short (by simp)).mono fun e w' h => ⟨h.2, .inl ⟨rfl, h.1⟩⟩

theorem isRmcp_below {w w' : World} {X : Nat} {pl : Value} {l : Lay} (k : Below w.heap.size w w') (h : IsRmcp w X pl l) : IsRmcp w' X pl l := by
  obtain ⟨v, s, q, d, pay, rfl, c1, hp, c2, c3, c4, c5, h1, h2, h3⟩ := h
  have hc : ∀ j u, w.cell? ⟨X, j, none⟩ = some u → w'.cell? ⟨X, j, none⟩ = some u := fun j u hu => (k.cell (p := ⟨X, j, none⟩) (World.block_lt_of_cell? _ _ hu)).trans hu
  exact ⟨v, s, q, d, pay, rfl, hc _ _ c1, hp.keeps (Keeps.of_below k), hc _ _ c2, hc _ _ c3, hc _ _ c4, hc _ _ c5, h1, h2, h3⟩
theorem isRmcp_pl {w : World} {X : Nat} {pl : Value} {l : Lay} (h : IsRmcp w X pl l) : w.cell? ⟨X, 1, none⟩ = some pl := by
  obtain ⟨v, s, q, d, pay, rfl, c1, _⟩ := h
  exact c1
end Go.Proofs.YtmpifdanfnebpaaGreat
