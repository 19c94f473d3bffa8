/-
  The decoder of mldquery2, from the kind on; what the bytes are.
-/
import Derived.Test.YtaejicpdaldpiaaGreatDquery
namespace Go.Proofs.YtaejicpdaldpiaaGreat
open Go Go.RowKit

/-- A question of MLDv2 at X. -/
def IsQuery (w : World) (X : Nat) (pl : Value) (l : Lay) : Prop :=
  ∃ (a r i nn : Int) (f : Bool) (mv : Value) (ma : List Int) (iv : Value) (ips : List (List Int)) (pay : List Int), l = ⟨[a, b01 f, r, i, nn], [ma], ips.map (fun d => (([] : List Int), d)), pay⟩ ∧ w.cell? ⟨X, 1, none⟩ = some pl ∧ SB w (fun _ => True) pl pay ∧
    w.cell? ⟨X, 2, none⟩ = some (.int .u16 a) ∧ w.cell? ⟨X, 3, none⟩ = some mv ∧ SB w (fun _ => True) mv ma ∧ w.cell? ⟨X, 4, none⟩ = some (.bool f) ∧ w.cell? ⟨X, 5, none⟩ = some (.int .u8 r) ∧ w.cell? ⟨X, 6, none⟩ = some (.int .u8 i) ∧ w.cell? ⟨X, 7, none⟩ = some (.int .u16 nn) ∧
    w.cell? ⟨X, 8, none⟩ = some iv ∧ Rows eB w 0 (fun _ => True) 84 iv ips ∧
    ((0 ≤ a ∧ a < 65536) ∧ (0 ≤ r ∧ r ≤ 255) ∧ (0 ≤ i ∧ i ≤ 255) ∧ (0 ≤ nn ∧ nn < 65536)) ∧ ma.length ≤ 1000 ∧ ips.length ≤ 65536 ∧ ∀ d ∈ ips, d.length ≤ 1000
theorem isQuery_below {w w' : World} {X : Nat} {pl : Value} {l : Lay} (k : Below w.heap.size w w') (hI : IsQuery w X pl l) : IsQuery w' X pl l := by
  obtain ⟨a, r, i, nn, f, mv, ma, iv, ips, pay, rfl, c1, hp, c2, c3, hm, c4, c5, c6, c7, c8, hi, b1, b2, b3, b4⟩ := hI
  have hc : ∀ j u, w.cell? ⟨X, j, none⟩ = some u → w'.cell? ⟨X, j, none⟩ = some u := fun j u hu => (k.cell (p := ⟨X, j, none⟩) (World.block_lt_of_cell? _ _ hu)).trans hu
  exact ⟨a, r, i, nn, f, mv, ma, iv, ips, pay, rfl, hc _ _ c1, hp.keeps (Keeps.of_below k), hc _ _ c2, hc _ _ c3, hm.keeps (Keeps.of_below k), hc _ _ c4, hc _ _ c5, hc _ _ c6, hc _ _ c7, hc _ _ c8, hi.keeps (Keeps.of_below k), b1, b2, b3, b4⟩
theorem isQuery_pl {w : World} {X : Nat} {pl : Value} {l : Lay} (hI : IsQuery w X pl l) : w.cell? ⟨X, 1, none⟩ = some pl := by
  obtain ⟨a, r, i, nn, f, mv, ma, iv, ips, pay, rfl, c1, _⟩ := hI
  exact c1

set_option maxRecDepth 100000 in
set_option maxHeartbeats 1000000 in
theorem decode_query_yes {g o n c N : Nat} (x0 x1 x2 x3 x4 x5 x6 x7 x8 x9 x10 x11 x12 x13 x14 x15 x16 x17 x18 x19 x20 x21 x22 x23 : Int) {rest : List Int} {w : World} (hn : n = rest.length + 24) (hc : n ≤ c) (hm : c ≤ 9223372036854775807) (hN : x22 * 256 + x23 = (N : Int)) (hmn : 24 + 16 * N ≤ n)
    (hb : ∀ z ∈ [x0, x1, x2, x3, x4, x5, x6, x7, x8, x9, x10, x11, x12, x13, x14, x15, x16, x17, x18, x19, x20, x21, x22, x23], 0 ≤ z ∧ z ≤ 255) (hr : RowAt w (fun _ => True) (some ⟨g, o, none⟩) ((x0 :: x1 :: x2 :: x3 :: x4 :: x5 :: x6 :: x7 :: x8 :: x9 :: x10 :: x11 :: x12 :: x13 :: x14 :: x15 :: x16 :: x17 :: x18 :: x19 :: x20 :: x21 :: x22 :: x23 :: rest).map (.int .u8))) :
    Calls Tryz.prog 47 #[.string ⟨#[109, 108, 100, 113, 117, 101, 114, 121, 50]⟩, .slice (some ⟨g, o, none⟩) n c] w fun e w' => ∃ X pl, e = .returned (.tuple #[.iface 95 (.pointer (some ⟨X, 0, none⟩)), .nilIface]) ∧ IsQuery w' X pl ⟨[x0 * 256 + x1, x20 / 8 % 2, x20 % 8, x21, (N : Int)], [[x4, x5, x6, x7, x8, x9, x10, x11, x12, x13, x14, x15, x16, x17, x18, x19]], (List.range N).map (fun k => (([] : List Int), ((x0 :: x1 :: x2 :: x3 :: x4 :: x5 :: x6 :: x7 :: x8 :: x9 :: x10 :: x11 :: x12 :: x13 :: x14 :: x15 :: x16 :: x17 :: x18 :: x19 :: x20 :: x21 :: x22 :: x23 :: rest).drop (24 + 16 * k)).take 16)), []⟩ ∧ Below w.heap.size w w' := by
  have m1 := m_query
  have m2 := m_add
  have HR := Lib.hid hr
  have HB := Lib.hid hb
  have HN := Lib.hid hn
  have h20 := hb x20 (by simp)
  have h21 := hb x21 (by simp)
  have h0 := hb x0 (by simp)
  have h1 := hb x1 (by simp)
  have h22 := hb x22 (by simp)
  have h23 := hb x23 (by simp)
  clear hr hb hn
  go_enter Tryz.func47, Tryz.ntmps47
  have HR1 := Lib.hid (HR.out.imp (fun b hb _ => hb))
  go_wp2_with (first | (go_at_call 49; refine new_c.mono ?_; rintro e w' ⟨rfl, rfl⟩) | (go_at_call 57; go_in) | (go_at_call 69; go_in))
  refine (dfb_query x0 x1 x2 x3 x4 x5 x6 x7 x8 x9 x10 x11 x12 x13 x14 x15 x16 x17 x18 x19 x20 x21 x22 x23 HN.out hc hm hN HB.out (by omega) (HR1.out.keeps (by repeat (first | with_reducible assumption | with_reducible exact Keeps.refl _ _ | with_reducible refine Keeps.drew ?_ | with_reducible refine Keeps.drewN ?_ _ | with_reducible refine Keeps.alloc ?_ _ | with_reducible refine Keeps.setCell ?_ ?_ _ | omega | focus (simp; done) | focus (simp; omega)))) (by (try simp only [heap_drew]); repeat (first | (with_reducible refine heap_last ?_; focus (simp; done)) | with_reducible refine heap_past ?_))).mono ?_
  rintro e w1 ⟨hb1, ⟨-, rfl, c1, c2, ⟨mv, c3, hd⟩, c4, c5, c6, c7, iv, c8, hI⟩ | ⟨hno, -⟩⟩
  rotate_left
  · omega
  have HD := Lib.hid hd
  have HI := Lib.hid hI
  have k0 : w1.cell? ⟨w.heap.size, 0, none⟩ = some .nilIface := (hb1.cell (p := ⟨w.heap.size, 0, none⟩) (by simp; omega)).trans (by go_simp)
  have k1 : w1.frozen? ⟨w.heap.size, 0, none⟩ = false := (hb1.frozen (p := ⟨w.heap.size, 0, none⟩) (by simp; omega)).trans (by go_simp)
  have HB1 := Lib.hid hb1
  clear hd hI hb1
  go_wp2_with (go_at_call 162; refine (add_c k0 k1).mono ?_; rintro e w' ⟨rfl, rfl⟩)
  refine bodyPost_ret (v := .tuple #[.iface 95 (.pointer (some ⟨w.heap.size + 1 + 1, 0, none⟩)), .nilIface]) (by simp only [results, Tryz.results47]; go_simp) rfl ?_
  have hw : Below w.heap.size w w1 := by
    have h0 := Below.refl w.heap.size w
    refine Below.trans (b := _) ?_ (HB1.out.mono (by omega))
    exact (by repeat (first | with_reducible assumption | with_reducible refine Below.drew ?_ | with_reducible refine below_drewN' ?_ _ | with_reducible refine Below.alloc ?_ ?_ _ | with_reducible refine Below.setCell ?_ ?_ _ | with_reducible exact Nat.le_refl _ | omega | focus (simp; done) | focus (simp; omega)))
  have hk6 : Keeps (fun b => b ≠ w.heap.size) w1 (w1.setCell ⟨w.heap.size, 0, none⟩ (.iface 95 (.pointer (some ⟨w.heap.size + 1 + 1, 0, none⟩)))) := (Keeps.refl _ _).setCell (fun h => h rfl) _
  have hc6 : ∀ j u, w1.cell? ⟨w.heap.size + 1 + 1, j, none⟩ = some u → (w1.setCell ⟨w.heap.size, 0, none⟩ (.iface 95 (.pointer (some ⟨w.heap.size + 1 + 1, 0, none⟩)))).cell? ⟨w.heap.size + 1 + 1, j, none⟩ = some u := fun j u hu => hk6.cell (b := w.heap.size + 1 + 1) (by omega) hu
  refine ⟨_, .slice none 0 0, rfl, ⟨_, _, _, _, flag8 x20, mv, [x4, x5, x6, x7, x8, x9, x10, x11, x12, x13, x14, x15, x16, x17, x18, x19], iv, (List.range N).map (fun k => ((x0 :: x1 :: x2 :: x3 :: x4 :: x5 :: x6 :: x7 :: x8 :: x9 :: x10 :: x11 :: x12 :: x13 :: x14 :: x15 :: x16 :: x17 :: x18 :: x19 :: x20 :: x21 :: x22 :: x23 :: rest).drop (24 + 16 * k)).take 16), [], ?_, hc6 1 _ c1, SB.nil _ _, hc6 2 _ c2, hc6 3 _ c3, (HD.out.keeps (hk6.imp (fun b hb => by omega))).imp (fun _ _ _ => trivial), hc6 4 _ c4, hc6 5 _ c5, hc6 6 _ c6, hc6 7 _ c7, hc6 8 _ c8,
    (HI.out.keeps (hk6.imp (fun b hb => by rcases hb with h | h <;> omega))).imp (Nat.zero_le _) (fun _ _ _ => trivial), ⟨by omega, by omega, by omega, by omega⟩, by simp, by simp; omega, fun d hd => ?_⟩, (by repeat (first | with_reducible assumption | with_reducible refine Below.drew ?_ | with_reducible refine below_drewN' ?_ _ | with_reducible refine Below.alloc ?_ ?_ _ | with_reducible refine Below.setCell ?_ ?_ _ | with_reducible exact Nat.le_refl _ | omega | focus (simp; done) | focus (simp; omega)))⟩
  · simp only [flag8_b h20, List.map_map, Function.comp_def]
  · obtain ⟨j, -, rfl⟩ := List.mem_map.1 hd
    simp
    omega

set_option maxRecDepth 100000 in
set_option maxHeartbeats 1000000 in
theorem decode_query_no {g o n c N : Nat} (x0 x1 x2 x3 x4 x5 x6 x7 x8 x9 x10 x11 x12 x13 x14 x15 x16 x17 x18 x19 x20 x21 x22 x23 : Int) {rest : List Int} {w : World} (hn : n = rest.length + 24) (hc : n ≤ c) (hm : c ≤ 9223372036854775807) (hN : x22 * 256 + x23 = (N : Int)) (hmn : n < 24 + 16 * N)
    (hb : ∀ z ∈ [x0, x1, x2, x3, x4, x5, x6, x7, x8, x9, x10, x11, x12, x13, x14, x15, x16, x17, x18, x19, x20, x21, x22, x23], 0 ≤ z ∧ z ≤ 255) (hr : RowAt w (fun _ => True) (some ⟨g, o, none⟩) ((x0 :: x1 :: x2 :: x3 :: x4 :: x5 :: x6 :: x7 :: x8 :: x9 :: x10 :: x11 :: x12 :: x13 :: x14 :: x15 :: x16 :: x17 :: x18 :: x19 :: x20 :: x21 :: x22 :: x23 :: rest).map (.int .u8))) :
    Calls Tryz.prog 47 #[.string ⟨#[109, 108, 100, 113, 117, 101, 114, 121, 50]⟩, .slice (some ⟨g, o, none⟩) n c] w fun e w' => (∃ t v, e = .returned (.tuple #[.nilIface, .iface t v])) ∧ Below w.heap.size w w' := by
  have m1 := m_query
  have m2 := m_add
  have HR := Lib.hid hr
  have HB := Lib.hid hb
  have HN := Lib.hid hn
  have h20 := hb x20 (by simp)
  have h21 := hb x21 (by simp)
  have h0 := hb x0 (by simp)
  have h1 := hb x1 (by simp)
  have h22 := hb x22 (by simp)
  have h23 := hb x23 (by simp)
  clear hr hb hn
  go_enter Tryz.func47, Tryz.ntmps47
  have HR1 := Lib.hid (HR.out.imp (fun b hb _ => hb))
  go_wp2_with (first | (go_at_call 49; refine new_c.mono ?_; rintro e w' ⟨rfl, rfl⟩) | (go_at_call 57; go_in) | (go_at_call 69; go_in))
  refine (dfb_query x0 x1 x2 x3 x4 x5 x6 x7 x8 x9 x10 x11 x12 x13 x14 x15 x16 x17 x18 x19 x20 x21 x22 x23 HN.out hc hm hN HB.out (by omega) (HR1.out.keeps (by repeat (first | with_reducible assumption | with_reducible exact Keeps.refl _ _ | with_reducible refine Keeps.drew ?_ | with_reducible refine Keeps.drewN ?_ _ | with_reducible refine Keeps.alloc ?_ _ | with_reducible refine Keeps.setCell ?_ ?_ _ | omega | focus (simp; done) | focus (simp; omega)))) (by (try simp only [heap_drew]); repeat (first | (with_reducible refine heap_last ?_; focus (simp; done)) | with_reducible refine heap_past ?_))).mono ?_
  rintro e w1 ⟨hb1, ⟨hno, -⟩ | ⟨-, b, rfl⟩⟩
  · omega
  have HB1 := Lib.hid hb1
  clear hb1
  go_wp2_with fail
  refine bodyPost_ret (v := .tuple #[.nilIface, .iface 201 (.pointer (some ⟨b, 0, none⟩))]) (by simp only [results, Tryz.results47]; go_simp) rfl ?_
  have hw : Below w.heap.size w w1 := by
    have h0 := Below.refl w.heap.size w
    refine Below.trans (b := _) ?_ (HB1.out.mono (by omega))
    exact (by repeat (first | with_reducible assumption | with_reducible refine Below.drew ?_ | with_reducible refine below_drewN' ?_ _ | with_reducible refine Below.alloc ?_ ?_ _ | with_reducible refine Below.setCell ?_ ?_ _ | with_reducible exact Nat.le_refl _ | omega | focus (simp; done) | focus (simp; omega)))
  exact ⟨⟨_, _, rfl⟩, (by repeat (first | with_reducible assumption | with_reducible refine Below.drew ?_ | with_reducible refine below_drewN' ?_ _ | with_reducible refine Below.alloc ?_ ?_ _ | with_reducible refine Below.setCell ?_ ?_ _ | with_reducible exact Nat.le_refl _ | omega | focus (simp; done) | focus (simp; omega)))⟩

set_option maxRecDepth 100000 in
set_option maxHeartbeats 1000000 in
theorem decode_query_short {p : Option Addr} {n c : Nat} {w : World} (hn : n < 24) :
    Calls Tryz.prog 47 #[.string ⟨#[109, 108, 100, 113, 117, 101, 114, 121, 50]⟩, .slice p n c] w fun e w' =>
      (∃ t v, e = .returned (.tuple #[.nilIface, .iface t v])) ∧ Below w.heap.size w w' := by
  have m1 := m_query
  have m2 := m_trunc
  go_enter Tryz.func47, Tryz.ntmps47
  go_wp2_with (first | (go_at_call 49; refine new_c.mono ?_; rintro e w' ⟨rfl, rfl⟩) | (go_at_call 163; refine trunc_c.mono ?_; rintro e w' ⟨rfl, rfl⟩) | (go_at_call 57; go_in) | (go_at_call 117; go_in) | (go_at_call 69; go_in))
  refine bodyPost_ret (v := .tuple #[.nilIface, .iface 201 (.pointer (some ⟨w.heap.size + 1 + 1 + 1, 0, none⟩))]) (by simp only [results, Tryz.results47]; go_simp) rfl ?_
  have h0 := Below.refl w.heap.size w
  exact ⟨⟨_, _, rfl⟩, (by repeat (first | with_reducible assumption | with_reducible refine Below.drew ?_ | with_reducible refine below_drewN' ?_ _ | with_reducible refine Below.alloc ?_ ?_ _ | with_reducible refine Below.setCell ?_ ?_ _ | with_reducible exact Nat.le_refl _ | omega | focus (simp; done) | focus (simp; omega)))⟩

/-- The data of the bytes. -/
def dQuery : List Int → Option Lay
  | x0 :: x1 :: x2 :: x3 :: x4 :: x5 :: x6 :: x7 :: x8 :: x9 :: x10 :: x11 :: x12 :: x13 :: x14 :: x15 :: x16 :: x17 :: x18 :: x19 :: x20 :: x21 :: x22 :: x23 :: rest => if 24 + 16 * (x22 * 256 + x23) ≤ (x0 :: x1 :: x2 :: x3 :: x4 :: x5 :: x6 :: x7 :: x8 :: x9 :: x10 :: x11 :: x12 :: x13 :: x14 :: x15 :: x16 :: x17 :: x18 :: x19 :: x20 :: x21 :: x22 :: x23 :: rest).length then
      some ⟨[x0 * 256 + x1, x20 / 8 % 2, x20 % 8, x21, ((x22 * 256 + x23).toNat : Int)], [[x4, x5, x6, x7, x8, x9, x10, x11, x12, x13, x14, x15, x16, x17, x18, x19]], (List.range (x22 * 256 + x23).toNat).map (fun k => (([] : List Int), ((x0 :: x1 :: x2 :: x3 :: x4 :: x5 :: x6 :: x7 :: x8 :: x9 :: x10 :: x11 :: x12 :: x13 :: x14 :: x15 :: x16 :: x17 :: x18 :: x19 :: x20 :: x21 :: x22 :: x23 :: rest).drop (24 + 16 * k)).take 16)), []⟩ else none
  | _ => none

theorem long8q {bs : List Int} (h : 8 ≤ bs.length) : ∃ x0 x1 x2 x3 x4 x5 x6 x7 rest, bs = x0 :: x1 :: x2 :: x3 :: x4 :: x5 :: x6 :: x7 :: rest := by
  match bs, h with
  | x0 :: x1 :: x2 :: x3 :: x4 :: x5 :: x6 :: x7 :: rest, _ => exact ⟨_, _, _, _, _, _, _, _, _, rfl⟩
theorem long24 {bs : List Int} (h : 24 ≤ bs.length) : ∃ x0 x1 x2 x3 x4 x5 x6 x7 x8 x9 x10 x11 x12 x13 x14 x15 x16 x17 x18 x19 x20 x21 x22 x23 rest, bs = x0 :: x1 :: x2 :: x3 :: x4 :: x5 :: x6 :: x7 :: x8 :: x9 :: x10 :: x11 :: x12 :: x13 :: x14 :: x15 :: x16 :: x17 :: x18 :: x19 :: x20 :: x21 :: x22 :: x23 :: rest := by
  obtain ⟨a0, a1, a2, a3, a4, a5, a6, a7, r1, rfl⟩ := long8q (bs := bs) (by omega)
  obtain ⟨b0, b1, b2, b3, b4, b5, b6, b7, r2, rfl⟩ := long8q (bs := r1) (by simp at h; omega)
  obtain ⟨c0, c1, c2, c3, c4, c5, c6, c7, r3, rfl⟩ := long8q (bs := r2) (by simp at h; omega)
  exact ⟨_, _, _, _, _, _, _, _, _, _, _, _, _, _, _, _, _, _, _, _, _, _, _, _, _, rfl⟩
theorem dQuery_short {bs : List Int} (h : bs.length < 24) : dQuery bs = none := by
  unfold dQuery
  split
  · simp at h
    omega
  · rfl
theorem dQuery_no {x0 x1 x2 x3 x4 x5 x6 x7 x8 x9 x10 x11 x12 x13 x14 x15 x16 x17 x18 x19 x20 x21 x22 x23 : Int} {rest : List Int} (h : ¬ 24 + 16 * (x22 * 256 + x23) ≤ ((x0 :: x1 :: x2 :: x3 :: x4 :: x5 :: x6 :: x7 :: x8 :: x9 :: x10 :: x11 :: x12 :: x13 :: x14 :: x15 :: x16 :: x17 :: x18 :: x19 :: x20 :: x21 :: x22 :: x23 :: rest).length : Int)) : dQuery (x0 :: x1 :: x2 :: x3 :: x4 :: x5 :: x6 :: x7 :: x8 :: x9 :: x10 :: x11 :: x12 :: x13 :: x14 :: x15 :: x16 :: x17 :: x18 :: x19 :: x20 :: x21 :: x22 :: x23 :: rest) = none := by
  unfold dQuery
  exact if_neg h
theorem dQuery_yes {x0 x1 x2 x3 x4 x5 x6 x7 x8 x9 x10 x11 x12 x13 x14 x15 x16 x17 x18 x19 x20 x21 x22 x23 : Int} {rest : List Int} {N : Nat} (h : 24 + 16 * (x22 * 256 + x23) ≤ ((x0 :: x1 :: x2 :: x3 :: x4 :: x5 :: x6 :: x7 :: x8 :: x9 :: x10 :: x11 :: x12 :: x13 :: x14 :: x15 :: x16 :: x17 :: x18 :: x19 :: x20 :: x21 :: x22 :: x23 :: rest).length : Int)) (hN : x22 * 256 + x23 = (N : Int)) : dQuery (x0 :: x1 :: x2 :: x3 :: x4 :: x5 :: x6 :: x7 :: x8 :: x9 :: x10 :: x11 :: x12 :: x13 :: x14 :: x15 :: x16 :: x17 :: x18 :: x19 :: x20 :: x21 :: x22 :: x23 :: rest) = some ⟨[x0 * 256 + x1, x20 / 8 % 2, x20 % 8, x21, (N : Int)], [[x4, x5, x6, x7, x8, x9, x10, x11, x12, x13, x14, x15, x16, x17, x18, x19]], (List.range N).map (fun k => (([] : List Int), ((x0 :: x1 :: x2 :: x3 :: x4 :: x5 :: x6 :: x7 :: x8 :: x9 :: x10 :: x11 :: x12 :: x13 :: x14 :: x15 :: x16 :: x17 :: x18 :: x19 :: x20 :: x21 :: x22 :: x23 :: rest).drop (24 + 16 * k)).take 16)), []⟩ := by
  have e : (x22 * 256 + x23).toNat = N := by omega
  unfold dQuery
  exact (if_pos h).trans (by rw [e])

set_option maxHeartbeats 2000000 in
theorem decOf_query {bs : List Int} (hb : ∀ z ∈ bs, 0 ≤ z ∧ z ≤ 255) : DecOf (.string ⟨#[109, 108, 100, 113, 117, 101, 114, 121, 50]⟩) bs (dQuery bs) 95 IsQuery := by
  intro v w h
  obtain ⟨p, c, rfl, hnc, hc, hp, hr⟩ := h
  rcases Nat.lt_or_ge bs.length 24 with h24 | h24
  · rw [dQuery_short h24]
    exact (decode_query_short h24).mono fun e w' h => ⟨h.2, .inl ⟨rfl, h.1⟩⟩
  · obtain ⟨x0, x1, x2, x3, x4, x5, x6, x7, x8, x9, x10, x11, x12, x13, x14, x15, x16, x17, x18, x19, x20, x21, x22, x23, rest, rfl⟩ := long24 h24
    rcases hr with h | ⟨b, o, rfl, g1, g2, g3⟩
    · simp at h
    · have hb' : ∀ z ∈ [x0, x1, x2, x3, x4, x5, x6, x7, x8, x9, x10, x11, x12, x13, x14, x15, x16, x17, x18, x19, x20, x21, x22, x23], 0 ≤ z ∧ z ≤ 255 := fun z hz => hb z (List.mem_append_left rest hz)
      have h22 := hb' x22 (by simp)
      have h23 := hb' x23 (by simp)
      have hr' : RowAt w (fun _ => True) (some ⟨b, o, none⟩) ((x0 :: x1 :: x2 :: x3 :: x4 :: x5 :: x6 :: x7 :: x8 :: x9 :: x10 :: x11 :: x12 :: x13 :: x14 :: x15 :: x16 :: x17 :: x18 :: x19 :: x20 :: x21 :: x22 :: x23 :: rest).map (.int .u8)) := .inr ⟨b, o, rfl, g1, g2, g3⟩
      by_cases hm : 24 + 16 * (x22 * 256 + x23) ≤ ((x0 :: x1 :: x2 :: x3 :: x4 :: x5 :: x6 :: x7 :: x8 :: x9 :: x10 :: x11 :: x12 :: x13 :: x14 :: x15 :: x16 :: x17 :: x18 :: x19 :: x20 :: x21 :: x22 :: x23 :: rest).length : Int)
      · rw [dQuery_yes (N := (x22 * 256 + x23).toNat) hm (by omega)]
        refine (decode_query_yes x0 x1 x2 x3 x4 x5 x6 x7 x8 x9 x10 x11 x12 x13 x14 x15 x16 x17 x18 x19 x20 x21 x22 x23 (N := (x22 * 256 + x23).toNat) (rest := rest) (by simp) hnc hc (by omega) (by simp only [List.length_cons] at hm ⊢; omega) hb' hr').mono ?_
        rintro e w' ⟨X, pl, he, hi, hb⟩
        exact ⟨hb, .inr ⟨_, X, pl, rfl, he, hi⟩⟩
      · rw [dQuery_no hm]
        exact (decode_query_no x0 x1 x2 x3 x4 x5 x6 x7 x8 x9 x10 x11 x12 x13 x14 x15 x16 x17 x18 x19 x20 x21 x22 x23 (N := (x22 * 256 + x23).toNat) (rest := rest) (by simp) hnc hc (by omega) (by simp only [List.length_cons] at hm ⊢; omega) hb' hr').mono fun e w' h => ⟨h.2, .inl ⟨rfl, h.1⟩⟩
end Go.Proofs.YtaejicpdaldpiaaGreat
