/-
  The decoder of mldquery2.
-/
import Derived.Test.YtaejicpdaldpiaaGreatRead
import Derived.Test.YtaejicpdaldpiaaGreatFill
import Derived.Test.YtaejicpdaldpiaaGreatLaw
namespace Go.Proofs.YtaejicpdaldpiaaGreat
open Go Go.RowKit

def flag8 (x : Int) : Bool := bits BinOp.and IntKind.u8 x 8 == 8
theorem flag8_def (x : Int) : (bits BinOp.and IntKind.u8 x 8 == 8) = flag8 x := rfl
theorem flag8_b' : ∀ k : Fin 256, b01 (flag8 ((k : Nat) : Int)) = ((k : Nat) : Int) / 8 % 2 := by decide +kernel
theorem flag8_b {x : Int} (h : 0 ≤ x ∧ x ≤ 255) : b01 (flag8 x) = x / 8 % 2 := by
  obtain ⟨k, rfl⟩ := Int.eq_ofNat_of_zero_le h.1
  exact flag8_b' ⟨k, by omega⟩
theorem and7' : ∀ k : Fin 256, bits BinOp.and IntKind.u8 ((k : Nat) : Int) 7 = ((k : Nat) : Int) % 8 := by decide +kernel
theorem and7 {x : Int} (h : 0 ≤ x ∧ x ≤ 255) : bits BinOp.and IntKind.u8 x 7 = x % 8 := by
  obtain ⟨k, rfl⟩ := Int.eq_ofNat_of_zero_le h.1
  exact and7' ⟨k, by omega⟩
theorem wrap_and7 {x : Int} (h : 0 ≤ x ∧ x ≤ 255) : IntKind.u64.wrap (bits BinOp.and IntKind.u8 x 7) = x % 8 := by
  rw [and7 h]
  exact wraps_u64 _ (by omega) (by omega)
theorem layOn_zlay2 (w : World) (ok : Nat → Prop) : LayOn w ok zlay ⟨[], [], [], []⟩ := ⟨_, _, _, _, rfl, SN.nil _ _, SD.nil _ _, SP.nil _ _, SB.nil _ _⟩

theorem m_query (k : Nat) (a : Addr) (w : World) : (method (k + 1) 95 (.pointer (some a)) "DecodeFromBytes").run Tryz.prog w = .ok (117, .pointer (some a)) w := by kernel_rfl

set_option maxRecDepth 100000 in
set_option maxHeartbeats 1000000 in
theorem dfb_query {B X g o n c N k : Nat} (x0 x1 x2 x3 x4 x5 x6 x7 x8 x9 x10 x11 x12 x13 x14 x15 x16 x17 x18 x19 x20 x21 x22 x23 : Int) {rest : List Int} {w : World} (hn : n = rest.length + 24) (hc : n ≤ c) (hm : c ≤ 9223372036854775807) (hN : x22 * 256 + x23 = (N : Int))
    (hb : ∀ z ∈ [x0, x1, x2, x3, x4, x5, x6, x7, x8, x9, x10, x11, x12, x13, x14, x15, x16, x17, x18, x19, x20, x21, x22, x23], 0 ≤ z ∧ z ≤ 255) (hBX : B ≤ X) (hr : RowAt w (· < B) (some ⟨g, o, none⟩) ((x0 :: x1 :: x2 :: x3 :: x4 :: x5 :: x6 :: x7 :: x8 :: x9 :: x10 :: x11 :: x12 :: x13 :: x14 :: x15 :: x16 :: x17 :: x18 :: x19 :: x20 :: x21 :: x22 :: x23 :: rest).map (.int .u8)))
    (hX : w.heap[X]? = some (.cells #[.slice none 0 0, .slice none 0 0, .int .u16 0, .slice none 0 0, .bool false, .int .u8 0, .int .u8 0, .int .u16 0, .slice none 0 0] 98 (0, 0))) :
    Calls Tryz.prog 117 #[.pointer (some ⟨X, 0, none⟩), .slice (some ⟨g, o, none⟩) n c, .iface 196 (.pointer (some ⟨k, 0, none⟩))] w fun e w' => 
      Below X w w' ∧ ((24 + 16 * N ≤ n ∧ e = .returned .nilIface ∧ w'.cell? ⟨X, 1, none⟩ = some (.slice none 0 0) ∧ w'.cell? ⟨X, 2, none⟩ = some (.int .u16 (x0 * 256 + x1)) ∧ (∃ mv, w'.cell? ⟨X, 3, none⟩ = some mv ∧ SB w' (· < B) mv [x4, x5, x6, x7, x8, x9, x10, x11, x12, x13, x14, x15, x16, x17, x18, x19]) ∧ w'.cell? ⟨X, 4, none⟩ = some (.bool (flag8 x20)) ∧ w'.cell? ⟨X, 5, none⟩ = some (.int .u8 (x20 % 8)) ∧ w'.cell? ⟨X, 6, none⟩ = some (.int .u8 x21) ∧ w'.cell? ⟨X, 7, none⟩ = some (.int .u16 (N : Int)) ∧ ∃ iv, w'.cell? ⟨X, 8, none⟩ = some iv ∧ Rows eB w' (X + 1) (· < B) 84 iv ((List.range N).map (fun k => ((x0 :: x1 :: x2 :: x3 :: x4 :: x5 :: x6 :: x7 :: x8 :: x9 :: x10 :: x11 :: x12 :: x13 :: x14 :: x15 :: x16 :: x17 :: x18 :: x19 :: x20 :: x21 :: x22 :: x23 :: rest).drop (24 + 16 * k)).take 16))) ∨
      (n < 24 + 16 * N ∧ ∃ b, e = .returned (.iface 201 (.pointer (some ⟨b, 0, none⟩))))) := by
  have hnm : 24 ≤ n := by omega
  have b2 : (2 : Int) ≤ (c : Int) := by omega
  have b4 : (4 : Int) ≤ (c : Int) := by omega
  have b20 : (20 : Int) ≤ (c : Int) := by omega
  have b22 : (22 : Int) ≤ (c : Int) := by omega
  have b24 : (24 : Int) ≤ (c : Int) := by omega
  have e2 : ¬ (c = 2) := by omega
  have e4 : ¬ (c = 4) := by omega
  have e22 : ¬ (c = 22) := by omega
  have HN := Lib.hid hn
  clear hn
  have m3 := m_trunc
  have HR := Lib.hid hr
  have HD := Lib.hid (show SB w (· < B) (.slice (some ⟨g, o + 4, none⟩) 16 (c - 4)) [x4, x5, x6, x7, x8, x9, x10, x11, x12, x13, x14, x15, x16, x17, x18, x19] from SB.from (lo := 4) (hi := 20) hr (by omega) (by simp) (by have := HN.out; simp; omega) hm (by rw [if_neg (by omega)]))
  obtain ⟨hg, hcell⟩ := rowCells hr (by simp)
  have hgX : g ≠ X := by
    rcases hr with h | ⟨b, o', hp, hb, _, _⟩
    · simp at h
    · simp only [Option.some.injEq, Addr.mk.injEq, and_true] at hp
      have : g < B := hp.1 ▸ hb
      omega
  have c0 := hcell 0 _ (by simp; rfl)
  have c1 := hcell 1 _ (by simp; rfl)
  have c20 := hcell 20 _ (by simp; rfl)
  have c21 := hcell 21 _ (by simp; rfl)
  have c22 := hcell 22 _ (by simp; rfl)
  have c23 := hcell 23 _ (by simp; rfl)
  rw [Nat.add_zero] at c0
  have h0 := hb x0 (by simp)
  have h1 := hb x1 (by simp)
  have h20 := hb x20 (by simp)
  have h21 := hb x21 (by simp)
  have h22 := hb x22 (by simp)
  have h23 := hb x23 (by simp)
  have d0 : w.cell? ⟨X, 0, none⟩ = some (.slice none 0 0) := by simp [World.cell?, hX]
  have d1 : w.cell? ⟨X, 1, none⟩ = some (.slice none 0 0) := by simp [World.cell?, hX]
  have d2 : w.cell? ⟨X, 2, none⟩ = some (.int .u16 0) := by simp [World.cell?, hX]
  have d3 : w.cell? ⟨X, 3, none⟩ = some (.slice none 0 0) := by simp [World.cell?, hX]
  have d4 : w.cell? ⟨X, 4, none⟩ = some (.bool false) := by simp [World.cell?, hX]
  have d5 : w.cell? ⟨X, 5, none⟩ = some (.int .u8 0) := by simp [World.cell?, hX]
  have d6 : w.cell? ⟨X, 6, none⟩ = some (.int .u8 0) := by simp [World.cell?, hX]
  have d7 : w.cell? ⟨X, 7, none⟩ = some (.int .u16 0) := by simp [World.cell?, hX]
  have d8 : w.cell? ⟨X, 8, none⟩ = some (.slice none 0 0) := by simp [World.cell?, hX]
  have f0 : w.frozen? ⟨X, 0, none⟩ = false := by simp [World.frozen?, hX]
  have f1 : w.frozen? ⟨X, 1, none⟩ = false := by simp [World.frozen?, hX]
  have f2 : w.frozen? ⟨X, 2, none⟩ = false := by simp [World.frozen?, hX]
  have f3 : w.frozen? ⟨X, 3, none⟩ = false := by simp [World.frozen?, hX]
  have f4 : w.frozen? ⟨X, 4, none⟩ = false := by simp [World.frozen?, hX]
  have f5 : w.frozen? ⟨X, 5, none⟩ = false := by simp [World.frozen?, hX]
  have f6 : w.frozen? ⟨X, 6, none⟩ = false := by simp [World.frozen?, hX]
  have f7 : w.frozen? ⟨X, 7, none⟩ = false := by simp [World.frozen?, hX]
  have f8 : w.frozen? ⟨X, 8, none⟩ = false := by simp [World.frozen?, hX]
  have hfz : ∀ j, w.frozen? ⟨X, j, none⟩ = false := fun j => by simp [World.frozen?, hX]
  have HFZ := Lib.hid hfz
  have lX : X < w.heap.size := (Array.getElem?_eq_some_iff.1 hX).1
  have lX1 : X < w.heap.size + 1 := by omega
  have lX2 : X < w.heap.size + 1 + 1 := by omega
  have lX3 : X < w.heap.size + 1 + 1 + 1 := by omega
  have lg1 : g < w.heap.size + 1 := by omega
  have lg2 : g < w.heap.size + 1 + 1 := by omega
  clear hr hcell hb hX hfz
  go_enter Tryz.func117, Tryz.ntmps117
  go_wp2_with fail
  refine wp_region_lex (fun _ => True) [7] (.q 0 (.q 1 (.q 2 (.q 3 (.l 4 (.q 5 (.q 6 (.l 7 .done .stop))) .stop))))) (by kernel_rfl) (by kernel_rfl) (fun _ _ d _ _ h => by cases d <;> exact h) (by simp only [Ord.fill, nthOp]; rfl) trivial ?_
  repeat
    first | refine lexO_pass rfl ?_ | (refine lexO_take2 ?_ rfl (by kernel_rfl) trivial (fun w' _ K Q' hK => ?_) ?_; rotate_left; focus (go_wp2_with fail; exact hK))
  refine lexO_do rfl (fun K hK => ?_) lexO_stop
  go_wp2_with (go_at_call 66; refine (u16_c x0 x1 (by omega) h0 h1 (by go_simp) (by go_simp)).mono ?_; rintro e w' ⟨rfl, rfl⟩)
  refine ⟨fun _ => trivial, ?_⟩
  repeat
    first | refine lexO_pass rfl ?_ | (refine lexO_take2 ?_ rfl (by kernel_rfl) trivial (fun w' _ K Q' hK => ?_) ?_; rotate_left; focus (go_wp2_with fail; exact hK))
  refine lexO_do rfl (fun K hK => ?_) lexO_stop
  go_wp2_with fail
  refine step_last (by decide) (lexO_done ?_)
  go_wp2_with fail
  refine wp_region_lex (fun _ => True) [7] (.q 0 (.q 1 (.q 2 (.q 3 (.l 4 (.q 5 (.q 6 (.l 7 .done .stop))) .stop))))) (by kernel_rfl) (by kernel_rfl) (fun _ _ d _ _ h => by cases d <;> exact h) (by simp only [Ord.fill, nthOp]; rfl) trivial ?_
  repeat
    first | refine lexO_pass rfl ?_ | (refine lexO_take2 ?_ rfl (by kernel_rfl) trivial (fun w' _ K Q' hK => ?_) ?_; rotate_left; focus (go_wp2_with fail; exact hK))
  refine lexO_do rfl (fun K hK => ?_) lexO_stop
  go_wp2_with (go_at_call 66; refine (u16_c x22 x23 (by omega) h22 h23 (by go_simp) (by go_simp)).mono ?_; rintro e w' ⟨rfl, rfl⟩)
  refine ⟨fun _ => trivial, ?_⟩
  repeat
    first | refine lexO_pass rfl ?_ | (refine lexO_take2 ?_ rfl (by kernel_rfl) trivial (fun w' _ K Q' hK => ?_) ?_; rotate_left; focus (go_wp2_with fail; exact hK))
  refine lexO_do rfl (fun K hK => ?_) lexO_stop
  go_wp2_with fail
  refine step_last (by decide) (lexO_done ?_)
  go_wp2_with fail
  rw [flag8_def]
  refine wp_gen (fun W => (W.cell? ⟨X, 0, none⟩ = some (.slice none 0 0) ∧ W.cell? ⟨X, 1, none⟩ = some (.slice none 0 0) ∧ W.cell? ⟨X, 2, none⟩ = some (.int .u16 (x0 * 256 + x1)) ∧ W.cell? ⟨X, 3, none⟩ = some (.slice (some ⟨g, o + 4, none⟩) 16 (c - 4)) ∧ W.cell? ⟨X, 4, none⟩ = some (.bool (flag8 x20)) ∧ W.cell? ⟨X, 5, none⟩ = some (.int .u8 (x20 % 8)) ∧ W.cell? ⟨X, 6, none⟩ = some (.int .u8 x21) ∧ W.cell? ⟨X, 7, none⟩ = some (.int .u16 (N : Int)) ∧ W.cell? ⟨X, 8, none⟩ = some (.slice none 0 0)) ∧ (∀ j, W.frozen? ⟨X, j, none⟩ = false) ∧ X < W.heap.size ∧ Keeps (· < B) w W ∧ Below X w W) ?F (fun W hW => ?_)
  case F =>
    have h0 := Below.refl X w
    have q1 := Keeps.refl (· < B) w
    refine ⟨⟨by go_simp, by go_simp, by go_simp, by go_simp, by go_simp, by go_simp, by go_simp, by go_simp, by go_simp⟩, fun j => ?_, by first | omega | focus (simp; done) | (simp; omega), (by repeat (first | with_reducible assumption | with_reducible exact Keeps.refl _ _ | with_reducible refine Keeps.drew ?_ | with_reducible refine Keeps.drewN ?_ _ | with_reducible refine Keeps.alloc ?_ _ | with_reducible refine Keeps.setCell ?_ ?_ _ | omega | focus (simp; done) | focus (simp; omega))), (by repeat (first | with_reducible assumption | with_reducible refine Below.drew ?_ | with_reducible refine below_drewN' ?_ _ | with_reducible refine Below.alloc ?_ ?_ _ | with_reducible refine Below.setCell ?_ ?_ _ | with_reducible exact Nat.le_refl _ | omega | focus (simp; done) | focus (simp; omega)))⟩
    have := HFZ.out j
    go_simp
  obtain ⟨⟨lc0, lc1, lc2, lc3, lc4, lc5, lc6, lc7, lc8⟩, lf, lL, kW, bW⟩ := hW
  have hN2 : (N : Int) ≤ 65535 := by omega
  have hF0 : GFills eB 84 8 W W X W.heap.size (· < B) (.slice none 0 0) ((List.range 0).map (fun k => ((x0 :: x1 :: x2 :: x3 :: x4 :: x5 :: x6 :: x7 :: x8 :: x9 :: x10 :: x11 :: x12 :: x13 :: x14 :: x15 :: x16 :: x17 :: x18 :: x19 :: x20 :: x21 :: x22 :: x23 :: rest).drop (24 + 16 * k)).take 16)) := GFills.start lL (Nat.le_refl _) lc8 lf
  have HK := Lib.hid (And.intro kW bW)
  have HF0 := Lib.hid hF0
  clear kW bW lf hF0
  go_loopw [7, 8, 9] (fun _ i _ wr => ∃ k : Nat, k ≤ N ∧ 24 + 16 * k ≤ n ∧ i = .int .u16 (k : Int) ∧ ∃ v, GFills eB 84 8 W wr X W.heap.size (· < B) v ((List.range k).map (fun k => ((x0 :: x1 :: x2 :: x3 :: x4 :: x5 :: x6 :: x7 :: x8 :: x9 :: x10 :: x11 :: x12 :: x13 :: x14 :: x15 :: x16 :: x17 :: x18 :: x19 :: x20 :: x21 :: x22 :: x23 :: rest).drop (24 + 16 * k)).take 16))) (fun _ i _ _ => N - (intOf i).toNat)
  case atStart => exact ⟨0, Nat.zero_le _, by omega, rfl, _, HF0.out⟩
  case round =>
    obtain ⟨k, hk, hkn, rfl, v, hF⟩ := hrel
    have HF := Lib.hid hF
    have lXr : X < wr.heap.size := Nat.lt_of_lt_of_le hF.lt hF.le
    have leW := hF.le
    have ef := hF.froz 8
    have hown := hF.rows.own
    obtain ⟨p, c', hv⟩ := hF.rows.form
    rw [show ((List.range k).map (fun k => ((x0 :: x1 :: x2 :: x3 :: x4 :: x5 :: x6 :: x7 :: x8 :: x9 :: x10 :: x11 :: x12 :: x13 :: x14 :: x15 :: x16 :: x17 :: x18 :: x19 :: x20 :: x21 :: x22 :: x23 :: rest).drop (24 + 16 * k)).take 16)).length = k by simp] at hv
    subst hv
    have e8 := hF.parts
    have e7 := hF.other 7 _ (by decide) lc7
    have HO := Lib.hid hown
    have HKG := Lib.hid (HK.out.1.trans (hF.keep.imp (fun b hb => ⟨by omega, by omega⟩ : ∀ b, b < B → b < W.heap.size ∧ b ≠ X)))
    clear hF hown
    by_cases hlt : k < N
    · have hat : (k : Int) < (N : Int) := by omega
      have hk1 : (k : Int) + 1 ≤ 65535 := by omega
      by_cases hfit : 24 + 16 * k + 16 ≤ n
      · have hft : ¬ (n : Int) < 24 + (k : Int) * 16 + 16 := by omega
        have ha1 : 24 + (k : Int) * 16 + 16 ≤ (c : Int) := by omega
        have ha2 : ¬ c = 24 + k * 16 := by omega
        have hS : SB w (· < B) (.slice (some ⟨g, o + (24 + k * 16), none⟩) 16 (c - (24 + k * 16))) ((fun k => ((x0 :: x1 :: x2 :: x3 :: x4 :: x5 :: x6 :: x7 :: x8 :: x9 :: x10 :: x11 :: x12 :: x13 :: x14 :: x15 :: x16 :: x17 :: x18 :: x19 :: x20 :: x21 :: x22 :: x23 :: rest).drop (24 + 16 * k)).take 16) k) := by
          have := SB.from (lo := 24 + 16 * k) (hi := 24 + 16 * k + 16) (A := some ⟨g, o + (24 + 16 * k), none⟩) HR.out (by omega) (by have := HN.out; simp at *; omega) (by have := HN.out; simp at *; omega) hm (by rw [if_neg (by omega)])
          rw [show 24 + 16 * k + 16 - (24 + 16 * k) = 16 by omega] at this
          rw [show 24 + k * 16 = 24 + 16 * k by omega]
          exact this
        have HS := Lib.hid hS
        clear hS
        go_wp2_with fail
        refine wp_region_to (W.heap.size) (by first | omega | exact Nat.le_refl _ | (simp; omega)) [13] (.q 0 (.q 1 (.q 2 (.q 3 (.q 4 (.q 5 (.q 6 (.q 7 (.q 8 (.l 9 (.l 10 (.q 11 (.q 12 (.l 13 .done .stop))) .stop) .stop)))))))))) (by kernel_rfl) (by kernel_rfl) (fun _ _ d _ _ h => by cases d <;> exact h) (by simp only [Ord.fill, nthOp]; rfl) ?_; intro hSm
        repeat
          first | refine lexO_pass rfl ?_ | (refine lexO_take2 ?_ rfl (by kernel_rfl) (by with_reducible assumption) (fun w' hS K Q' hK => ?_) ?_; rotate_left; focus (have hS2 := hS.2; clear hS; go_wp2_with fail; exact hK))
        refine lexO_do rfl (fun K hK => ?_) lexO_stop
        go_wp2_with fail
        refine step_and (by repeat (first | with_reducible assumption | (with_reducible refine SameTo.refl ?_) | with_reducible refine SameTo.drew ?_ | with_reducible refine SameTo.alloc ?_ _ | (with_reducible refine SameTo.setCell ?_ ?_ _) | (refine SameTo.below ?_ (by with_reducible assumption)) | omega | exact Nat.le_refl _ | focus (simp; done) | focus (simp; omega))) (fun _ => ?_)
        repeat
          first | refine lexO_pass rfl ?_ | (refine lexO_take2 ?_ rfl (by kernel_rfl) (by with_reducible assumption) (fun w' hS K Q' hK => ?_) ?_; rotate_left; focus (have hS2 := hS.2; clear hS; go_wp2_with fail; exact hK))
        refine lexO_do rfl (fun K hK => ?_) lexO_stop
        refine wp_append_N (E := eB) (.tmp 81) (.tmp 86) 96 84 _ 24 rfl Tryz.underlying96 infoIP rfl (by decide) (by decide) (HF.out.rows.keeps (by repeat (first | with_reducible assumption | with_reducible exact Keeps.refl _ _ | with_reducible refine Keeps.drew ?_ | with_reducible refine Keeps.drewN ?_ _ | with_reducible refine Keeps.alloc ?_ _ | with_reducible refine Keeps.setCell ?_ ?_ _ | omega | focus (simp; done) | focus (simp; omega)))) wr.heap.size (fun k hk => (HO.out k hk).2) rfl rfl (cs := [.slice (some ⟨g, o + (24 + k * 16), none⟩) 16 (c - (24 + k * 16))]) (y := (fun k => ((x0 :: x1 :: x2 :: x3 :: x4 :: x5 :: x6 :: x7 :: x8 :: x9 :: x10 :: x11 :: x12 :: x13 :: x14 :: x15 :: x16 :: x17 :: x18 :: x19 :: x20 :: x21 :: x22 :: x23 :: rest).drop (24 + 16 * k)).take 16) k) ?hcells ?hrep (by simp; omega) (by first | omega | (simp; omega)) (fun q' c2 w5 hr5 hs5 hk5 hb5 => hK _ _ ?_)
        case hcells =>
          intro j u hu
          rcases j with _ | j
          · simp at hu; subst hu; go_simp
          · simp at hu
        case hrep => exact ⟨_, rfl, (HS.out.keeps (HKG.out.trans (by repeat (first | with_reducible assumption | with_reducible exact Keeps.refl _ _ | with_reducible refine Keeps.drew ?_ | with_reducible refine Keeps.drewN ?_ _ | with_reducible refine Keeps.alloc ?_ _ | with_reducible refine Keeps.setCell ?_ ?_ _ | omega | focus (simp; done) | focus (simp; omega))))).imp (fun b _ hb => ⟨hb, .inl (by omega)⟩)⟩
        refine step_and (SameTo.keeps (by repeat (first | with_reducible assumption | (with_reducible refine SameTo.refl ?_) | with_reducible refine SameTo.drew ?_ | with_reducible refine SameTo.alloc ?_ _ | (with_reducible refine SameTo.setCell ?_ ?_ _) | (refine SameTo.below ?_ (by with_reducible assumption)) | omega | exact Nat.le_refl _ | focus (simp; done) | focus (simp; omega))) hk5) (fun _ => ?_)
        rw [show ((List.range k).map (fun k => ((x0 :: x1 :: x2 :: x3 :: x4 :: x5 :: x6 :: x7 :: x8 :: x9 :: x10 :: x11 :: x12 :: x13 :: x14 :: x15 :: x16 :: x17 :: x18 :: x19 :: x20 :: x21 :: x22 :: x23 :: rest).drop (24 + 16 * k)).take 16)).length = k by simp] at hr5
        have hL5 : w5.cell? ⟨X, 8, none⟩ = some (.slice p k c') := hk5.cell lL (by go_simp)
        have hf5 : w5.frozen? ⟨X, 8, none⟩ = false := hk5.frozen lL (by first | omega | (simp; omega)) (by go_simp)
        have l5 : X < w5.heap.size := World.block_lt_of_cell? _ _ hL5
        have H5 := Lib.hid (HF.out.step (w5 := w5) (fun b hb => by omega) (show Below wr.heap.size wr _ from (by have h0 := Below.refl wr.heap.size wr; exact (by repeat (first | with_reducible assumption | with_reducible refine Below.drew ?_ | with_reducible refine below_drewN' ?_ _ | with_reducible refine Below.alloc ?_ ?_ _ | with_reducible refine Below.setCell ?_ ?_ _ | with_reducible exact Nat.le_refl _ | omega | focus (simp; done) | focus (simp; omega))))) hr5 hs5 hk5 hb5)
        clear hr5 hs5 hk5 hb5
        repeat
          first | refine lexO_pass rfl ?_ | (refine lexO_take2 ?_ rfl (by kernel_rfl) (by with_reducible assumption) (fun w' hS K Q' hK => ?_) ?_; rotate_left; focus (have hS2 := hS.2; clear hS; go_wp2_with fail; exact hK))
        refine lexO_do rfl (fun K hK => ?_) lexO_stop
        go_wp2_with fail
        first | refine step_last (by decide) (lexO_done ?_) | refine lexO_done ?_
        go_wp2_with fail
        go_roundw
        case rel => exact ⟨k + 1, hlt, by omega, by go_num, _, by have := H5.out; rwa [range_snoc] at this⟩
        case measure => simp [intOf]; omega
      · have hft : (n : Int) < 24 + (k : Int) * 16 + 16 := by omega
        go_wp2_with (first | (go_at_call 163; refine trunc_c.mono ?_; rintro e w' ⟨rfl, rfl⟩) | (go_at_call 49; refine new_c.mono ?_; rintro e w' ⟨rfl, rfl⟩))
        refine bodyPost_ret (v := .iface 201 (.pointer (some ⟨wr.heap.size, 0, none⟩))) (by simp only [results, Tryz.results117]; go_simp) rfl ?_
        have hbW : Below X w wr := HF.out.below _ _ (Nat.le_refl _) HK.out.2
        exact ⟨(by repeat (first | with_reducible assumption | with_reducible refine Below.drew ?_ | with_reducible refine below_drewN' ?_ _ | with_reducible refine Below.alloc ?_ ?_ _ | with_reducible refine Below.setCell ?_ ?_ _ | with_reducible exact Nat.le_refl _ | omega | focus (simp; done) | focus (simp; omega))), .inr ⟨by omega, _, rfl⟩⟩
    · obtain rfl : k = N := by omega
      have hat : ¬ (k : Int) < (k : Int) := by omega
      go_wp2_with fail
      refine bodyPost_ret (v := .nilIface) (by simp only [results, Tryz.results117]; go_simp) rfl ?_
      have hF := HF.out
      have hbW : Below X w wr := hF.below _ _ (Nat.le_refl _) HK.out.2
      have hc : ∀ j u, j ≠ 8 → W.cell? ⟨X, j, none⟩ = some u → wr.cell? ⟨X, j, none⟩ = some u := fun j u hj hu => hF.other j u hj hu
      refine ⟨hbW, .inl ?_⟩
      first
        | exact ⟨hkn, rfl, hc 1 _ (by decide) lc1, hc 2 _ (by decide) lc2, ⟨_, hc 3 _ (by decide) lc3, HD.out.keeps HKG.out⟩, hc 4 _ (by decide) lc4, hc 5 _ (by decide) lc5, hc 6 _ (by decide) lc6, e7, _, e8, hF.rows.imp (by omega) (fun _ _ h => h)⟩
        | exact ⟨rfl, hc 1 _ (by decide) lc1, hc 2 _ (by decide) lc2, ⟨_, hc 3 _ (by decide) lc3, HD.out.keeps HKG.out⟩, hc 4 _ (by decide) lc4, hc 5 _ (by decide) lc5, hc 6 _ (by decide) lc6, e7, _, e8, hF.rows.imp (by omega) (fun _ _ h => h)⟩

end Go.Proofs.YtaejicpdaldpiaaGreat
