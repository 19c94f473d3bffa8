/-
  The decoder of radius.
-/
import Derived.Test.YtaofambmajlhmaaBytes
import Derived.Test.YtaofambmajlhmaaAttr
import Derived.Test.YtaofambmajlhmaaRead
import Derived.Test.YtaofambmajlhmaaLaw
import Derived.Deep.OwnRows
namespace Go.Proofs.Ytaofambmajlhmaa
open Go Go.RowKit

theorem made_at {M i : Nat} (h : i < M) : (madeCells #[Value.int .u8 0] M)[i]? = some (.int .u8 0) := by simp [madeCells, h, Nat.mod_one]
theorem cell_setCells' {b c j : Nat} (hb : ¬ c = b) {vs : List Value} {o : Nat} {w : World} : (w.setCells b o vs).cell? ⟨c, j, none⟩ = w.cell? ⟨c, j, none⟩ := World.cell?_setCells_out b vs o w _ (fun h _ => absurd h hb)
theorem rPay_take {ps : List (List Int × List Int)} {k : Nat} {q : List Int × List Int} {a n : Int} (h : ps[k]? = some q) (h1 : q.1 = [a, n]) : rPay (ps.take (k + 1)) = rPay (ps.take k) ++ (if a = 79 then q.2 else []) := by
  rw [List.take_add_one, h]
  obtain ⟨q1, q2⟩ := q
  obtain rfl : q1 = [a, n] := h1
  exact rPay_snoc _ _ _ _
theorem rPay_le {ps : List (List Int × List Int)} (h : ∀ p ∈ ps, p.2.length ≤ 256) : ∀ k, (rPay (ps.take k)).length ≤ 256 * k := by
  intro k
  induction k with
  | zero => simp [rPay]
  | succ k ih =>
    rw [List.take_add_one]
    cases hk : ps[k]? with
    | none => simp at ih ⊢; omega
    | some d =>
      have := h d (List.mem_of_getElem? hk)
      have e : rPay (ps.take k ++ [d]) = rPay (ps.take k) ++ (if d.1.headD 0 = 79 then d.2 else []) := by simp [rPay]
      show (rPay (ps.take k ++ [d])).length ≤ _
      rw [e, List.length_append]
      split
      · omega
      · simp; omega

def RadiusPost (X : Nat) (w' : World) (e : Ending) (r : Option (List (List Int × List Int))) (m h n : Int) (auth : List Int) : Prop :=
  (r = none ∧ ∃ b, e = .returned (.iface 178 (.pointer (some ⟨b, 0, none⟩)))) ∨
    ∃ ps, r = some ps ∧ e = .returned .nilIface ∧ (∃ pl, w'.cell? ⟨X, 1, none⟩ = some pl ∧ SB w' (fun b => X < b) pl (rPay ps)) ∧ w'.cell? ⟨X, 2, none⟩ = some (.int .u8 m) ∧ w'.cell? ⟨X, 3, none⟩ = some (.int .u8 h) ∧ w'.cell? ⟨X, 4, none⟩ = some (.int .u16 n) ∧
      (∀ i x, auth[i]? = some x → w'.cell? ⟨X, 5 + i, none⟩ = some (.int .u8 x)) ∧ ∃ iv, w'.cell? ⟨X, 21, none⟩ = some iv ∧ Rows eA w' (X + 1) (fun b => X < b) 133 iv ps

set_option maxRecDepth 100000 in
set_option maxHeartbeats 8000000 in
theorem dfb_radius {B X g o n c k : Nat} (x0 x1 x2 x3 : Int) {rest : List Int} {w : World} (hn : n = rest.length + 4) (h20 : 20 ≤ n) (hc : n ≤ c) (hm : c ≤ 9223372036854775807) (hLIM : n ≤ 2000) (hx : x2 * 256 + x3 = (n : Int)) {all : List Int} (hAll : all = (x0 :: x1 :: x2 :: x3 :: rest).drop 20) {r : Option (List (List Int × List Int))} (hres : dAttrs all = some r)
    (hall : ∀ z ∈ x0 :: x1 :: x2 :: x3 :: rest, 0 ≤ z ∧ z ≤ 255) (hBX : B ≤ X) (hr : RowAt w (· < B) (some ⟨g, o, none⟩) ((x0 :: x1 :: x2 :: x3 :: rest).map (.int .u8)))
    (hX : w.heap[X]? = some (.cells #[.slice none 0 0, .slice none 0 0, .int .u8 0, .int .u8 0, .int .u16 0, .int .u8 0, .int .u8 0, .int .u8 0, .int .u8 0, .int .u8 0, .int .u8 0, .int .u8 0, .int .u8 0, .int .u8 0, .int .u8 0, .int .u8 0, .int .u8 0, .int .u8 0, .int .u8 0, .int .u8 0, .int .u8 0, .slice none 0 0] 128 (0, 0))) :
    Calls Try.prog 68 #[.pointer (some ⟨X, 0, none⟩), .slice (some ⟨g, o, none⟩) n c, .iface 173 (.pointer (some ⟨k, 0, none⟩))] w fun e w' =>
      Below X w w' ∧ RadiusPost X w' e r x0 x1 (n : Int) (((x0 :: x1 :: x2 :: x3 :: rest).drop 4).take 16) := by
  have HA := Lib.hid hAll
  have HRES := Lib.hid hres
  have HBB := Lib.hid hall
  have HN := Lib.hid hn
  have h0 := hall x0 (by simp)
  have h1 := hall x1 (by simp)
  have h2 := hall x2 (by simp)
  have h3 := hall x3 (by simp)
  clear hAll hres hall hn
  have m3 := m_trunc
  have HR := Lib.hid hr
  have b2 : (2 : Int) ≤ (c : Int) := by omega
  have b4 : (4 : Int) ≤ (c : Int) := by omega
  have b20 : (20 : Int) ≤ (c : Int) := by omega
  have n0 : (0 : Int) < (n : Int) := by omega
  have n1 : (1 : Int) < (n : Int) := by omega
  have n4 : (4 : Int) ≤ (n : Int) := by omega
  have n20 : (20 : Int) ≤ (n : Int) := by omega
  have n20' : ¬ (n : Int) < 20 := by omega
  have nbig : ¬ (4096 : Int) < (n : Int) := by omega
  have n16 : (n : Int) ≤ 65535 := by omega
  have ec2 : ¬ (c = 2) := by omega
  have ec4 : ¬ (c = 4) := by omega
  have HD1 := Lib.hid (show SB w (· < B) (.slice (some ⟨g, o + 4, none⟩) 16 (c - 4)) (((x0 :: x1 :: x2 :: x3 :: rest).drop 4).take 16) from SB.from (lo := 4) (hi := 20) hr (by omega) (by have := HN.out; simp; omega) (by have := HN.out; simp; omega) hm (by rw [if_neg (by omega)]))
  obtain ⟨auth, hau⟩ : ∃ a, a = ((x0 :: x1 :: x2 :: x3 :: rest).drop 4).take 16 := ⟨_, rfl⟩
  rw [← hau] at HD1 ⊢
  have HAL := Lib.hid (show auth.length = 16 by rw [hau, List.length_take, List.length_drop]; have := HN.out; simp; omega)
  clear hau
  obtain ⟨hg, hcell⟩ := rowCells hr (by simp)
  have hgB : g < B := by
    rcases hr with h | ⟨b, o', hp, hb, _, _⟩
    · simp at h
    · simp only [Option.some.injEq, Addr.mk.injEq, and_true] at hp
      exact hp.1 ▸ hb
  have hgX : g ≠ X := by omega
  have nXg : ¬ X = g := by omega
  have c0 := hcell 0 _ (by simp; rfl)
  have c1 := hcell 1 _ (by simp; rfl)
  have c2 := hcell 2 _ (by simp; rfl)
  have c3 := hcell 3 _ (by simp; rfl)
  rw [Nat.add_zero] at c0
  have d0 : w.cell? ⟨X, 0, none⟩ = some (.slice none 0 0) := by simp [World.cell?, hX]
  have d1 : w.cell? ⟨X, 1, none⟩ = some (.slice none 0 0) := by simp [World.cell?, hX]
  have d2 : w.cell? ⟨X, 2, none⟩ = some (.int .u8 0) := by simp [World.cell?, hX]
  have d3 : w.cell? ⟨X, 3, none⟩ = some (.int .u8 0) := by simp [World.cell?, hX]
  have d4 : w.cell? ⟨X, 4, none⟩ = some (.int .u16 0) := by simp [World.cell?, hX]
  have d21 : w.cell? ⟨X, 21, none⟩ = some (.slice none 0 0) := by simp [World.cell?, hX]
  have HFZ := Lib.hid (fun j => by simp [World.frozen?, hX] : ∀ j, w.frozen? ⟨X, j, none⟩ = false)
  have HCX := Lib.hid (fun i => match i with | ⟨0, _⟩ => by simp [World.cell?, hX] | ⟨1, _⟩ => by simp [World.cell?, hX] | ⟨2, _⟩ => by simp [World.cell?, hX] | ⟨3, _⟩ => by simp [World.cell?, hX] | ⟨4, _⟩ => by simp [World.cell?, hX] | ⟨5, _⟩ => by simp [World.cell?, hX] | ⟨6, _⟩ => by simp [World.cell?, hX] | ⟨7, _⟩ => by simp [World.cell?, hX] | ⟨8, _⟩ => by simp [World.cell?, hX] | ⟨9, _⟩ => by simp [World.cell?, hX] | ⟨10, _⟩ => by simp [World.cell?, hX] | ⟨11, _⟩ => by simp [World.cell?, hX] | ⟨12, _⟩ => by simp [World.cell?, hX] | ⟨13, _⟩ => by simp [World.cell?, hX] | ⟨14, _⟩ => by simp [World.cell?, hX] | ⟨15, _⟩ => by simp [World.cell?, hX] | ⟨i + 16, h⟩ => absurd h (by omega) : ∀ i : Fin 16, w.cell? ⟨X, 5 + (i : Nat), none⟩ = some (.int .u8 0))
  have f0 := HFZ.out 0
  have f1 := HFZ.out 1
  have f2 := HFZ.out 2
  have f3 := HFZ.out 3
  have f4 := HFZ.out 4
  have f21 := HFZ.out 21
  have lX : X < w.heap.size := (Array.getElem?_eq_some_iff.1 hX).1
  have lX1 : X < w.heap.size + 1 := by omega
  have lX2 : X < w.heap.size + 1 + 1 := by omega
  have lg1 : g < w.heap.size + 1 := by omega
  have lg2 : g < w.heap.size + 1 + 1 := by omega
  clear hX
  clear hr hcell
  go_enter Try.func68, Try.ntmps68
  go_wp2_with fail
  refine wp_region_lex (fun _ => True) [7] (.q 0 (.q 1 (.q 2 (.q 3 (.l 4 (.q 5 (.q 6 (.l 7 .done .stop))) .stop))))) (by kernel_rfl) (by kernel_rfl) (fun _ _ d _ _ h => by cases d <;> exact h) (by simp only [Ord.fill, nthOp]; rfl) trivial ?_
  repeat
    first | refine lexO_pass rfl ?_ | (refine lexO_take2 ?_ rfl (by kernel_rfl) trivial (fun w' _ K Q' hK => ?_) ?_; rotate_left; focus (go_wp2_with fail; exact hK))
  refine lexO_do rfl (fun K hK => ?_) lexO_stop
  go_wp2_with (go_at_call 63; refine (u16_c x2 x3 (by omega) h2 h3 (by go_simp) (by go_simp)).mono ?_; rintro e w' ⟨rfl, rfl⟩)
  refine ⟨fun _ => trivial, ?_⟩
  repeat
    first | refine lexO_pass rfl ?_ | (refine lexO_take2 ?_ rfl (by kernel_rfl) trivial (fun w' _ K Q' hK => ?_) ?_; rotate_left; focus (go_wp2_with fail; exact hK))
  refine lexO_do rfl (fun K hK => ?_) lexO_stop
  go_wp2_with fail
  refine step_last (by decide) (lexO_done ?_)
  go_wp2_with fail
  refine wp_region_lex (fun _ => True) [6] (.q 0 (.q 1 (.q 2 (.q 3 (.q 4 (.q 5 (.l 6 .done .stop))))))) (by kernel_rfl) (by kernel_rfl) (fun _ _ d _ _ h => by cases d <;> exact h) (by simp only [Ord.fill, nthOp]; rfl) trivial ?_
  repeat
    first | refine lexO_pass rfl ?_ | (refine lexO_take2 ?_ rfl (by kernel_rfl) trivial (fun w' _ K Q' hK => ?_) ?_; rotate_left; focus (go_wp2_with fail; exact hK))
  refine lexO_do rfl (fun K hK => ?_) lexO_stop
  refine wp_copyB (.tmp 95) (.tmp 97) 22 22 rfl Try.underlying22 (D := X) (k := 5) (ds := auth) rfl rfl (SB.keeps HD1.out (show Keeps (· < B) w _ from (by repeat (first | with_reducible assumption | with_reducible exact Keeps.refl _ _ | with_reducible refine Keeps.drew ?_ | with_reducible refine Keeps.drewN ?_ _ | with_reducible refine Keeps.alloc ?_ _ | with_reducible refine Keeps.setCell ?_ ?_ _ | omega | focus (simp; done) | focus (simp; omega))))) (by have := HAL.out; omega) (fun _ => rfl) ?hcc ?hff (hK _ _ ⟨fun _ => trivial, lexO_done ?_⟩)
  case hcc =>
    intro i hi
    have := HAL.out
    have hcx := HCX.out
    obtain ⟨i', rfl⟩ : ∃ i' : Fin 16, i = (i' : Nat) := ⟨⟨i, by omega⟩, rfl⟩
    have := hcx i'
    go_simp
  case hff =>
    intro i hi
    have := HFZ.out (5 + i)
    go_simp
  generalize hV : World.setCells _ _ _ _ = W
  have lL : X < W.heap.size := by rw [← hV, setCells_size]; first | omega | (simp; done) | (simp; omega)
  have lc0 : W.cell? ⟨X, 0, none⟩ = some (.slice (some ⟨g, o, none⟩) n c) := by rw [← hV, setCells_out _ _ (by first | exact .inl (by omega) | exact .inr (by rw [List.length_map, HAL.out]; omega))]; go_simp
  have lc1 : W.cell? ⟨X, 1, none⟩ = some (.slice none 0 0) := by rw [← hV, setCells_out _ _ (by first | exact .inl (by omega) | exact .inr (by rw [List.length_map, HAL.out]; omega))]; go_simp
  have lc2 : W.cell? ⟨X, 2, none⟩ = some (.int .u8 x0) := by rw [← hV, setCells_out _ _ (by first | exact .inl (by omega) | exact .inr (by rw [List.length_map, HAL.out]; omega))]; go_simp
  have lc3 : W.cell? ⟨X, 3, none⟩ = some (.int .u8 x1) := by rw [← hV, setCells_out _ _ (by first | exact .inl (by omega) | exact .inr (by rw [List.length_map, HAL.out]; omega))]; go_simp
  have lc4 : W.cell? ⟨X, 4, none⟩ = some (.int .u16 (n : Int)) := by rw [← hV, setCells_out _ _ (by first | exact .inl (by omega) | exact .inr (by rw [List.length_map, HAL.out]; omega))]; go_simp
  have lc21 : W.cell? ⟨X, 21, none⟩ = some (.slice none 0 0) := by rw [← hV, setCells_out _ _ (by first | exact .inl (by omega) | exact .inr (by rw [List.length_map, HAL.out]; omega))]; go_simp
  have HLF := Lib.hid (show ∀ j, W.frozen? ⟨X, j, none⟩ = false from fun j => by rw [← hV, setCells_frozen]; have := HFZ.out j; go_simp)
  have HAU := Lib.hid (show ∀ i x, auth[i]? = some x → W.cell? ⟨X, 5 + i, none⟩ = some (.int .u8 x) from fun i x hx => by
    rw [← hV]
    refine setCells_in (fun i hi => ?_) (by simp [hx])
    obtain ⟨i', rfl⟩ : ∃ i' : Fin 16, i = (i' : Nat) := ⟨⟨i, by rw [List.length_map, HAL.out] at hi; exact hi⟩, rfl⟩
    have := HCX.out i'
    go_simp)
  have HK := Lib.hid (show Keeps (· < B) w W ∧ Below X w W from ⟨by rw [← hV]; exact setCells_keeps (by omega) _ _ (by repeat (first | with_reducible assumption | with_reducible exact Keeps.refl _ _ | with_reducible refine Keeps.drew ?_ | with_reducible refine Keeps.drewN ?_ _ | with_reducible refine Keeps.alloc ?_ _ | with_reducible refine Keeps.setCell ?_ ?_ _ | omega | focus (simp; done) | focus (simp; omega))), by rw [← hV]; have h0 := Below.refl X w; exact setCells_below (Nat.le_refl _) _ _ (by repeat (first | with_reducible assumption | with_reducible refine Below.drew ?_ | with_reducible refine below_drewN' ?_ _ | with_reducible refine Below.alloc ?_ ?_ _ | with_reducible refine Below.setCell ?_ ?_ _ | with_reducible exact Nat.le_refl _ | omega | focus (simp; done) | focus (simp; omega)))⟩)
  clear hV c0 c1 c2 c3 d0 d1 d2 d3 d4 d21 f0 f1 f2 f3 f4 f21 lX lX1 lX2 lg1 lg2
  have lgW : g < W.heap.size := by omega
  by_cases hn20 : n = 20
  · have hnb : ((n : Int) == 20) = true := by simp [hn20]
    go_wp2_with fail
    refine bodyPost_ret (v := .nilIface) (by simp only [results, Try.results68]; go_simp) rfl ?_
    have hall : all = [] := by rw [HA.out]; exact List.drop_eq_nil_of_le (by have := HN.out; simp at *; omega)
    have hr := HRES.out
    rw [hall, dAttrs_nil] at hr
    exact ⟨HK.out.2, .inr ⟨[], (Option.some.inj hr).symm, rfl, ⟨_, lc1, SB.nil _ _⟩, lc2, lc3, lc4, HAU.out, _, lc21, Rows.nil _ _ _ _ _⟩⟩
  · have hnb : ((n : Int) == 20) = false := by simp; omega
    go_wp2_with fail
    have HF0 := Lib.hid (show GFills eA 133 21 W W X W.heap.size (fun b => X < b) (.slice none 0 0) [] from GFills.start lL (Nat.le_refl _) lc21 HLF.out)
    go_loopw [7, 8] (fun i _ wr => ∃ (j : Nat) (v : Value) (done : List (List Int × List Int)), j ≤ n ∧ done.length ≤ j ∧ i = .int .i64 (j : Int) ∧ GFills eA 133 21 W wr X W.heap.size (fun b => X < b) v done ∧ ReadsA all done ((x0 :: x1 :: x2 :: x3 :: rest).drop j)) (fun i _ _ => n - (intOf i).toNat)
    case atStart => exact ⟨20, _, [], h20, by simp, rfl, HF0.out, by rw [← HA.out]; exact ReadsA.start _⟩
    case round =>
      obtain ⟨j, v, done, hj, hdl0, rfl, hF, hrd⟩ := hrel
      have HF := Lib.hid hF
      have lXr : X < wr.heap.size := Nat.lt_of_lt_of_le hF.lt hF.le
      have lXr1 : X < wr.heap.size + 1 := by omega
      have lgr : g < wr.heap.size := by omega
      have lgr1 : g < wr.heap.size + 1 := by omega
      have lgr2 : g < wr.heap.size + 1 + 1 := by omega
      have leW := hF.le
      have ef := hF.froz 21
      have hown := hF.rows.own
      obtain ⟨p, c', hv⟩ := hF.rows.form
      subst hv
      have e21 := hF.parts
      have HO := Lib.hid hown
      have HDL := Lib.hid (Nat.le_trans hdl0 hj : done.length ≤ n)
      have HDJ := Lib.hid hdl0
      have HRD := Lib.hid hrd
      have HKG := Lib.hid (HK.out.1.trans (hF.keep.imp (fun b hb => ⟨by omega, by omega⟩ : ∀ b, b < B → b < W.heap.size ∧ b ≠ X)))
      clear hF hown hdl0 hrd
      by_cases hjn : j = n
      · subst hjn
        have hjb : ((j : Int) == (j : Int)) = true := by simp
        have HNIL := Lib.hid (show (x0 :: x1 :: x2 :: x3 :: rest).drop j = [] from List.drop_eq_nil_of_le (by have := HN.out; simp at *; omega))
        obtain ⟨W2, hW2⟩ : ∃ W2, W2 = wr := ⟨_, rfl⟩
        subst hW2
        have z1 := HF.out.other 1 _ (by decide) lc1
        have lXn : X < W2.heap.size := lXr
        have HB0 := Lib.hid (BFills.start (J := 1) (W := W2) (L := X) (base := W2.heap.size) lXr (Nat.le_refl _) z1 HF.out.froz)
        obtain ⟨m, hm'⟩ : ∃ m, m = done.length := ⟨_, rfl⟩
        have HM := Lib.hid hm'
        rw [← hm'] at e21
        have hm9 : m ≤ 2000 := by have := HDL.out; omega
        clear hm'
        go_wp2_with fail
        go_loopw [10, 186] (fun _ i w2 => ∃ k : Nat, k ≤ m ∧ i = .int .i64 (k : Int) ∧ ∃ pv, BFills 1 W2 w2 X W2.heap.size pv (rPay (done.take k))) (fun _ i _ => m - (intOf i).toNat)
        case atStart => exact ⟨0, Nat.zero_le _, rfl, _, HB0.out⟩
        case round =>
          obtain ⟨k, hk, rfl, pv, hB⟩ := hrel
          obtain ⟨pay, hpay⟩ : ∃ pay, pay = rPay (done.take k) := ⟨_, rfl⟩
          rw [← hpay] at hB
          have HB := Lib.hid hB
          obtain ⟨pp, pc, hpv, -⟩ := SB.own hB.own
          subst hpv
          have HPAY := Lib.hid hpay
          have q1 := hB.pay
          have qf := hB.froz 1
          have lX2 : X < wr.heap.size := Nat.lt_of_lt_of_le hB.lt hB.le
          have le2 := hB.le
          have HPO := Lib.hid hB.own.lt
          have qX21 := hB.other 21 _ (by decide) e21
          clear hB hpay
          by_cases hlt : k < m
          · have hkI : ((k : Nat) : Int) < (m : Int) := by omega
            obtain ⟨gI, cI', cs, q, hiv, hgI, hbI, hq, hcs, a, nn, u, rfl, hp1, hu, ba, bn, bl⟩ := HF.out.rows.get (j := k) (by have := HM.out; omega)
            have hcI : p = some ⟨gI, 0, none⟩ := by simp only [Value.slice.injEq] at hiv; exact hiv.1
            subst hcI
            have hcell : ∀ i x, [Value.int .u8 a, .int .u8 nn, u][i]? = some x → wr.cell? ⟨gI, k * 3 + i, none⟩ = some x := fun i x hx => HB.out.keep.cell (b := gI) ⟨hgI, by omega⟩ (hcs i x hx)
            have k0 := hcell 0 _ rfl
            have k1 := hcell 1 _ rfl
            have k2 := hcell 2 _ rfl
            rw [Nat.add_zero] at k0
            have lgI2 : gI < wr.heap.size := by omega
            have HU := Lib.hid ((hu.imp (fun b hl hb => ⟨hl, by omega⟩ : ∀ b, b < W2.heap.size → X < b → b < W2.heap.size ∧ b ≠ X)).keeps HB.out.keep)
            obtain ⟨pu, cu, rfl, -⟩ := hu
            have HQ := Lib.hid hq
            have HP1 := Lib.hid hp1
            have HK1 := Lib.hid hlt
            have hpl : pay.length ≤ 256 * k := by
              rw [HPAY.out]
              exact rPay_le (fun p hp => by
                obtain ⟨j, hj⟩ := List.getElem?_of_mem hp
                obtain ⟨_, _, cs, x, _, _, _, hx, _, _, _, _, _, _, _, _, _, h⟩ := HF.out.rows.get (j := j) (List.getElem?_eq_some_iff.1 hj).1
                rw [hj] at hx
                obtain rfl := Option.some.inj hx
                exact h) k
            have HPL := Lib.hid hpl
            clear hcell hcs hq hp1 hiv hpl
            by_cases h79 : a = 79
            · have h79' : (a == 79) = true := by simp [h79]
              go_wp2_with fail
              refine wp_region_on (fun b => b < W2.heap.size ∨ b = wr.heap.size) (fun b hb => by first | omega | (rcases hb with hb | hb <;> omega) | (rcases hb with hb | hb <;> simp <;> omega)) [12] (.q 0 (.q 1 (.q 2 (.q 3 (.q 4 (.q 5 (.q 6 (.q 7 (.l 8 (.q 9 (.q 10 (.q 11 (.l 12 .done .stop)))) .stop))))))))) (by kernel_rfl) (by kernel_rfl) (fun _ _ d _ _ h => by cases d <;> exact h) (by simp only [Ord.fill, nthOp]; rfl) ?_; intro hSm
              repeat
                first | refine lexO_pass rfl ?_ | (refine lexO_take2 ?_ rfl (by kernel_rfl) (by with_reducible assumption) (fun w' hS K Q' hK => ?_) ?_; rotate_left; focus (have hS2 := hS.2; clear hS; go_wp2_with fail; exact hK))
              refine lexO_do rfl (fun K hK => ?_) lexO_stop
              refine wp_append_bytes (.tmp 198) (.tmp 200) 22 131 rfl Try.underlying22 Try.underlying131 rfl (v := .slice pp pay.length pc) (ds := pay) (base := W2.heap.size) (ownsRow_keeps HB.out.own (show Keeps (fun _ => True) wr _ from (by repeat (first | with_reducible assumption | with_reducible exact Keeps.refl _ _ | with_reducible refine Keeps.drew ?_ | with_reducible refine Keeps.drewN ?_ _ | with_reducible refine Keeps.alloc ?_ _ | with_reducible refine Keeps.setCell ?_ ?_ _ | omega | focus (simp; done) | focus (simp; omega)))) (fun _ _ => trivial)) rfl (HU.out.keeps (by repeat (first | with_reducible assumption | with_reducible exact Keeps.refl _ _ | with_reducible refine Keeps.drew ?_ | with_reducible refine Keeps.drewN ?_ _ | with_reducible refine Keeps.alloc ?_ _ | with_reducible refine Keeps.setCell ?_ ?_ _ | omega | focus (simp; done) | focus (simp; omega)))) (by have := HPL.out; have := HM.out; have := HDL.out; omega) (by first | omega | (simp; omega)) (fun p' c2 n2 w7 hr7 hg7 ha7 => hK _ _ ?_)
              have hk7 := grown_keeps (N := W2.heap.size) hg7.out (fun k hk => (HPO.out k hk).1)
              refine step_and (SameOn.keeps (by repeat (first | with_reducible assumption | (with_reducible refine SameOn.refl (fun b hb => ?_); first | omega | (rcases hb with hb | hb <;> omega) | (rcases hb with hb | hb <;> simp <;> omega)) | with_reducible refine SameOn.drew ?_ | with_reducible refine SameOn.alloc ?_ _ | (refine SameOn.below ?_ (by with_reducible assumption)))) (Keeps.of_grown (ok := fun b => b < W2.heap.size ∨ b = wr.heap.size) hg7.out (fun b hb he => by have := HPO.out b he.symm; omega)) (fun b hb => hb)) (fun _ => ?_)
              have hL7 : w7.cell? ⟨X, 1, none⟩ = some (.slice pp pay.length pc) := hk7.cell lXr (by go_simp)
              have hf7 : w7.frozen? ⟨X, 1, none⟩ = false := hk7.frozen lXr (by first | omega | (simp; omega)) (by go_simp)
              have l7 : X < w7.heap.size := World.block_lt_of_cell? _ _ hL7
              have H7 := Lib.hid (HB.out.more (w5 := w7) (d := q.2) (show Below wr.heap.size wr _ from (by have h0 := Below.refl wr.heap.size wr; exact (by repeat (first | with_reducible assumption | with_reducible refine Below.drew ?_ | with_reducible refine below_drewN' ?_ _ | with_reducible refine Below.alloc ?_ ?_ _ | with_reducible refine Below.setCell ?_ ?_ _ | with_reducible exact Nat.le_refl _ | omega | focus (simp; done) | focus (simp; omega))))) hr7.out hg7.out ha7.out)
              clear hr7 hg7 ha7 hk7
              repeat
                first | refine lexO_pass rfl ?_ | (refine lexO_take2 ?_ rfl (by kernel_rfl) (by with_reducible assumption) (fun w' hS K Q' hK => ?_) ?_; rotate_left; focus (have hS2 := hS.2; clear hS; go_wp2_with fail; exact hK))
              refine lexO_do rfl (fun K hK => ?_) lexO_stop
              go_wp2_with fail
              first | refine step_last (by decide) (lexO_done ?_) | refine lexO_done ?_
              go_wp2_with fail
              go_roundw
              case rel => exact ⟨k + 1, HK1.out, by go_num, _, by have h := H7.out; rw [rPay_take HQ.out HP1.out, if_pos h79, ← HPAY.out]; exact h⟩
              case measure => have := HK1.out; simp [intOf]; omega
            · have h79' : (a == 79) = false := by simp [h79]
              go_wp2_with fail
              go_roundw
              case rel => exact ⟨k + 1, HK1.out, by go_num, _, by rw [rPay_take HQ.out HP1.out, if_neg h79, List.append_nil, ← HPAY.out]; exact HB.out.new (by have h0 := Below.refl wr.heap.size wr; exact (by repeat (first | with_reducible assumption | with_reducible refine Below.drew ?_ | with_reducible refine below_drewN' ?_ _ | with_reducible refine Below.alloc ?_ ?_ _ | with_reducible refine Below.setCell ?_ ?_ _ | with_reducible exact Nat.le_refl _ | omega | focus (simp; done) | focus (simp; omega))))⟩
              case measure => have := HK1.out; simp [intOf]; omega
          · obtain rfl : k = m := by omega
            have hkI : ¬ ((k : Nat) : Int) < (k : Int) := by omega
            go_wp2_with fail
            refine bodyPost_ret (v := .nilIface) (by simp only [results, Try.results68]; go_simp) rfl ?_
            have hB := HB.out
            have hbW : Below X w wr := hB.below _ _ (Nat.le_refl _) (HF.out.below _ _ (Nat.le_refl _) HK.out.2)
            have hc : ∀ j u, j ≠ 21 → j ≠ 1 → W.cell? ⟨X, j, none⟩ = some u → wr.cell? ⟨X, j, none⟩ = some u := fun j u hj h1 hu => hB.other j u h1 (HF.out.other j u hj hu)
            have hD := HRD.out
            unfold ReadsA at hD
            rw [HNIL.out, dAttrs_nil, HRES.out] at hD
            have hpe : pay = rPay done := by rw [HPAY.out, List.take_of_length_le (by have := HM.out; omega)]
            refine ⟨hbW, .inr ⟨done, by simpa using hD, rfl, ⟨_, q1, ?_⟩, hc 2 _ (by decide) (by decide) lc2, hc 3 _ (by decide) (by decide) lc3, hc 4 _ (by decide) (by decide) lc4, fun i x hx => hc _ _ (by have := (List.getElem?_eq_some_iff.1 hx).1; have := HAL.out; omega) (by omega) (HAU.out i x hx), _, qX21, ?_⟩⟩
            · have h := SB.own hB.own
              rw [← hpe]
              exact h.imp (fun b _ hb => by have := hb.1; omega)
            · have h1 : Rows eA W2 W.heap.size (fun b => X < b ∧ b < W2.heap.size) 133 (.slice p done.length c') done := HF.out.rows.imp (Nat.le_refl _) (fun b hl h => ⟨h, hl⟩)
              have h2 := (h1.keeps2 (w' := wr) (hB.keep.imp (fun b hb => by
                rcases hb with hb | hb
                · exact ⟨hb.2, by omega⟩
                · have := HO.out b hb
                  exact ⟨this.2, by omega⟩))).imp (base' := X + 1) (by omega) (fun b _ h => h.1)
              rw [HM.out]
              exact h2
      · have hjb : ((n : Int) == (j : Int)) = false := by simp; omega
        have hjc : (j : Int) ≤ (c : Int) := by omega
        have hjc2 : ¬ c = j := by omega
        have hjl : (j : Int) < (n : Int) := by omega
        have hdl : ((x0 :: x1 :: x2 :: x3 :: rest).drop j).length = n - j := by have := HN.out; simp at *; omega
        by_cases hl2 : n - j < 2
        · have hl3 : ((n - j : Nat) : Int) < 2 := by omega
          obtain ⟨y0, hy0⟩ : ∃ y0, (x0 :: x1 :: x2 :: x3 :: rest).drop j = [y0] := by
            match h : (x0 :: x1 :: x2 :: x3 :: rest).drop j, hdl with
            | [a], _ => exact ⟨a, rfl⟩
            | [], hdl => simp at hdl; omega
            | a :: b :: r, hdl => simp at hdl; omega
          have HY := Lib.hid hy0
          clear hy0 hdl
          go_wp2_with (first | (go_at_call 46; refine new_c.mono ?_; rintro e w' ⟨rfl, rfl⟩) | (go_at_call 126; refine trunc_c.mono ?_; rintro e w' ⟨rfl, rfl⟩))
          refine bodyPost_ret (v := .iface 178 (.pointer (some ⟨wr.heap.size, 0, none⟩))) (by simp only [results, Try.results68]; go_simp) rfl ?_
          have h0 : Below X w wr := HF.out.below _ _ (Nat.le_refl _) HK.out.2
          have hD := HRD.out
          unfold ReadsA at hD
          rw [HY.out, dAttrs_one, HRES.out] at hD
          exact ⟨(by repeat (first | with_reducible assumption | with_reducible refine Below.drew ?_ | with_reducible refine below_drewN' ?_ _ | with_reducible refine Below.alloc ?_ ?_ _ | with_reducible refine Below.setCell ?_ ?_ _ | with_reducible exact Nat.le_refl _ | omega | focus (simp; done) | focus (simp; omega))), .inl ⟨by simpa using hD, _, rfl⟩⟩
        · have hl3 : ¬ ((n - j : Nat) : Int) < 2 := by omega
          have hjl1 : (j : Int) + 1 < (n : Int) := by omega
          obtain ⟨y0, y1, rest2, hrest⟩ : ∃ a b r, (x0 :: x1 :: x2 :: x3 :: rest).drop j = a :: b :: r := by
            match h : (x0 :: x1 :: x2 :: x3 :: rest).drop j, hdl with
            | a :: b :: r, _ => exact ⟨a, b, r, rfl⟩
            | [_], hdl => simp at hdl; omega
            | [], hdl => simp at hdl; omega
          have hrow := HR.out.drop j
          rw [← List.map_drop, hrest] at hrow
          have hbb : ∀ z ∈ [y0, y1], 0 ≤ z ∧ z ≤ 255 := fun z hz => HBB.out z (List.mem_of_mem_drop (i := j) (by rw [hrest]; exact List.mem_append_left rest2 hz))
          obtain ⟨-, hcell2⟩ := rowCells hrow (by simp)
          have b0 := hbb y0 (by simp)
          have b1 := hbb y1 (by simp)
          have e0' := HKG.out.cell (b := g) hgB (hcell2 0 (.int .u8 y0) (by simp))
          rw [Nat.add_zero] at e0'
          have hlr : n - j = rest2.length + 2 := by rw [hrest] at hdl; simp at hdl; omega
          have HROW := Lib.hid hrow
          have HREST := Lib.hid hrest
          have HLR := Lib.hid hlr
          have e1' := HKG.out.cell (b := g) hgB (hcell2 1 (.int .u8 y1) (by simp))
          rw [Nat.add_assoc] at e1'
          clear hrow hcell2 hbb hdl hrest hlr
          by_cases hml : ((n - j : Nat) : Int) < y1
          · go_wp2_with fail
            go_quiet (fail)
            go_wp2_with (first | (go_at_call 46; refine new_c.mono ?_; rintro e w' ⟨rfl, rfl⟩) | (go_at_call 126; refine trunc_c.mono ?_; rintro e w' ⟨rfl, rfl⟩))
            refine bodyPost_ret (v := .iface 178 (.pointer (some ⟨wr.heap.size + 1, 0, none⟩))) (by simp only [results, Try.results68]; go_simp) rfl ?_
            have h0 : Below X w wr := HF.out.below _ _ (Nat.le_refl _) HK.out.2
            have hD := HRD.out
            unfold ReadsA at hD
            rw [HREST.out, dAttrs_bad (.inr (by have := HLR.out; omega)), HRES.out] at hD
            exact ⟨(by repeat (first | with_reducible assumption | with_reducible refine Below.drew ?_ | with_reducible refine below_drewN' ?_ _ | with_reducible refine Below.alloc ?_ ?_ _ | with_reducible refine Below.setCell ?_ ?_ _ | with_reducible exact Nat.le_refl _ | omega | focus (simp; done) | focus (simp; omega))), .inl ⟨by simpa using hD, _, rfl⟩⟩
          · by_cases hm2 : y1 < 2
            · go_wp2_with fail
              go_quiet (fail)
              go_wp2_with (first | (go_at_call 46; refine new_c.mono ?_; rintro e w' ⟨rfl, rfl⟩) | (go_at_call 126; refine trunc_c.mono ?_; rintro e w' ⟨rfl, rfl⟩))
              refine bodyPost_ret (v := .iface 178 (.pointer (some ⟨wr.heap.size + 1, 0, none⟩))) (by simp only [results, Try.results68]; go_simp) rfl ?_
              have h0 : Below X w wr := HF.out.below _ _ (Nat.le_refl _) HK.out.2
              have hD := HRD.out
              unfold ReadsA at hD
              rw [HREST.out, dAttrs_bad (.inl (by omega)), HRES.out] at hD
              exact ⟨(by repeat (first | with_reducible assumption | with_reducible refine Below.drew ?_ | with_reducible refine below_drewN' ?_ _ | with_reducible refine Below.alloc ?_ ?_ _ | with_reducible refine Below.setCell ?_ ?_ _ | with_reducible exact Nat.le_refl _ | omega | focus (simp; done) | focus (simp; omega))), .inl ⟨by simpa using hD, _, rfl⟩⟩
            · by_cases hme : y1 = 2
              · have hD := HRD.out
                unfold ReadsA at hD
                rw [HREST.out, hme, dAttrs_open, HRES.out] at hD
                cases hD
              · obtain ⟨M, rfl⟩ : ∃ M : Nat, y1 = (M : Int) + 2 := ⟨(y1 - 2).toNat, by omega⟩
                have hM0 : 0 < M := by omega
                have hm2' : (2 : Int) < (M : Int) + 2 := by omega
                have hdr : ∀ (W : World) (q : Nat) (p : Addr) (v : Value), (W.drewN q).setCell p v = (W.setCell p v).drewN q := fun _ _ _ _ => rfl
                have hda : ∀ (W : World) (q : Nat) (o : Obj), (W.drewN q).alloc o = (W.alloc o).drewN q := fun _ _ _ => rfl
                have hmk := run_make_row' (P := Try.prog) 22 5 (.int .u8 0) 1 Try.underlying22 Try.infoB rfl .u8 .u8 M (by omega) (by omega)
                have hMn : (j : Int) + ((M : Int) + 2) ≤ (c : Int) := by omega
                have hMn2 : ((M : Int) + 2) ≤ ((n - j : Nat) : Int) := by omega
                have hcj2 : ¬ c = j + 2 := by omega
                have hS : SB w (· < B) (.slice (some ⟨g, o + (j + 2), none⟩) (j + (M + 2) - (j + 2)) (c - (j + 2))) (rest2.take M) := by
                  have := SB.from (lo := 2) (hi := M + 2) (A := some ⟨g, o + j + 2, none⟩) HROW.out (by omega) (by simp; have := HLR.out; omega) (by have := HLR.out; simp; omega) (by omega) (if_neg (show ¬ c - j = 2 by omega))
                  rw [show j + (M + 2) - (j + 2) = M by omega, ← Nat.add_assoc, ← Nat.sub_sub]
                  simpa using this
                have HS := Lib.hid hS
                clear hS
                go_wp2_with fail
                go_quiet (fail)
                go_wp2_with fail
                refine wp_region_on (fun b => b = wr.heap.size) (fun b hb => by first | omega | (rcases hb with hb | hb <;> omega) | (rcases hb with hb | hb <;> simp <;> omega)) [12] (.q 0 (.q 1 (.q 2 (.q 3 (.q 4 (.q 5 (.q 6 (.q 7 (.q 8 (.q 9 (.q 10 (.q 11 (.l 12 .done .stop))))))))))))) (by kernel_rfl) (by kernel_rfl) (fun _ _ d _ _ h => by cases d <;> exact h) (by simp only [Ord.fill, nthOp]; rfl) ?_; intro hSm
                repeat
                  first | refine lexO_pass rfl ?_ | (refine lexO_take2 ?_ rfl (by kernel_rfl) (by with_reducible assumption) (fun w' hS K Q' hK => ?_) ?_; rotate_left; focus (have hS2 := hS.2; clear hS; go_wp2_with fail; exact hK))
                refine lexO_do rfl (fun K hK => ?_) lexO_stop
                refine wp_copyB (.tmp 155) (.tmp 164) 131 22 rfl Try.underlying131 (D := wr.heap.size + 1) (k := 0) (ds := rest2.take M) rfl rfl (SB.keeps HS.out (HKG.out.trans (by repeat (first | with_reducible assumption | with_reducible exact Keeps.refl _ _ | with_reducible refine Keeps.drew ?_ | with_reducible refine Keeps.drewN ?_ _ | with_reducible refine Keeps.alloc ?_ _ | with_reducible refine Keeps.setCell ?_ ?_ _ | omega | focus (simp; done) | focus (simp; omega))))) (by simp; omega) (fun _ => rfl) ?hcc ?hff (hK _ _ (step_last (by decide) (lexO_done ?_)))
                case hcc =>
                  intro i hi
                  have hi2 : i < M := by simp at hi; omega
                  have hmc := made_at hi2
                  go_simp
                case hff =>
                  intro i hi
                  go_simp
                generalize hV : World.setCells _ _ _ _ = V2
                have l2 : wr.heap.size + 1 < V2.heap.size := by rw [← hV, setCells_size]; first | omega | (simp; done) | (simp; omega)
                have g0 : V2.cell? ⟨wr.heap.size, 0, none⟩ = some (.int .u8 y0) := by rw [← hV, cell_setCells' (by omega)]; go_simp
                have g1 : V2.cell? ⟨wr.heap.size, 1, none⟩ = some (.int .u8 ((M : Int) + 2)) := by rw [← hV, cell_setCells' (by omega)]; go_simp
                have g2 : V2.cell? ⟨wr.heap.size, 2, none⟩ = some (.slice (some ⟨wr.heap.size + 1, 0, none⟩) M M) := by rw [← hV, cell_setCells' (by omega)]; go_simp
                have g21 : V2.cell? ⟨X, 21, none⟩ = some (.slice p done.length c') := by rw [← hV, cell_setCells' (by omega)]; go_simp
                have gf : V2.frozen? ⟨X, 21, none⟩ = false := by rw [← hV, setCells_frozen]; go_simp
                have HB2 := Lib.hid (show Below wr.heap.size wr V2 from by rw [← hV]; have h0 := Below.refl wr.heap.size wr; exact setCells_below (by omega) _ _ (by repeat (first | with_reducible assumption | with_reducible refine Below.drew ?_ | with_reducible refine below_drewN' ?_ _ | with_reducible refine Below.alloc ?_ ?_ _ | with_reducible refine Below.setCell ?_ ?_ _ | with_reducible exact Nat.le_refl _ | omega | focus (simp; done) | focus (simp; omega))))
                have HSV := Lib.hid (show SB V2 (fun b => b = wr.heap.size + 1) (.slice (some ⟨wr.heap.size + 1, 0, none⟩) M M) (rest2.take M) from by
                  have hl : (rest2.take M).length = M := by rw [List.length_take]; have := HLR.out; omega
                  refine ⟨_, _, by rw [hl], by omega, by omega, fun h => (by cases h), .inr ⟨wr.heap.size + 1, 0, rfl, rfl, l2, fun i x hx => ?_⟩⟩
                  rw [← hV]
                  refine setCells_in (fun i hi => ?_) hx
                  have hi2 : i < M := by rw [List.length_map, hl] at hi; exact hi
                  have hmc := made_at hi2
                  go_simp)
                clear hV
                have lX2 : X < V2.heap.size := by omega
                have lY2 : wr.heap.size < V2.heap.size := by omega
                have nXY : ¬ X = wr.heap.size := by omega
                have nYX : ¬ wr.heap.size = X := by omega
                go_wp2_with fail
                refine wp_region_on (fun b => b < W.heap.size ∨ b = wr.heap.size) (fun b hb => by first | omega | (rcases hb with hb | hb <;> omega) | (rcases hb with hb | hb <;> simp <;> omega)) [10] (.q 0 (.q 1 (.q 2 (.q 3 (.q 4 (.q 5 (.l 6 (.l 7 (.q 8 (.q 9 (.l 10 .done .stop))) .stop) .stop))))))) (by kernel_rfl) (by kernel_rfl) (fun _ _ d _ _ h => by cases d <;> exact h) (by simp only [Ord.fill, nthOp]; rfl) ?_; intro hSm
                repeat
                  first | refine lexO_pass rfl ?_ | (refine lexO_take2 ?_ rfl (by kernel_rfl) (by with_reducible assumption) (fun w' hS K Q' hK => ?_) ?_; rotate_left; focus (have hS2 := hS.2; clear hS; go_wp2_with fail; exact hK))
                refine lexO_do rfl (fun K hK => ?_) lexO_stop
                go_wp2_with fail
                refine step_and (by repeat (first | with_reducible assumption | (with_reducible refine SameOn.refl (fun b hb => ?_); first | omega | (rcases hb with hb | hb <;> omega) | (rcases hb with hb | hb <;> simp <;> omega)) | with_reducible refine SameOn.drew ?_ | with_reducible refine SameOn.alloc ?_ _ | (refine SameOn.below ?_ (by with_reducible assumption)))) (fun _ => ?_)
                repeat
                  first | refine lexO_pass rfl ?_ | (refine lexO_take2 ?_ rfl (by kernel_rfl) (by with_reducible assumption) (fun w' hS K Q' hK => ?_) ?_; rotate_left; focus (have hS2 := hS.2; clear hS; go_wp2_with fail; exact hK))
                refine lexO_do rfl (fun K hK => ?_) lexO_stop
                refine wp_append_N2 (E := eA) (.tmp 170) (.tmp 172) 126 133 _ 32 rfl Try.underlying126 infoAttr rfl (by decide) (by decide) (HF.out.rows.keeps (Keeps.trans (Keeps.of_below HB2.out) (by repeat (first | with_reducible assumption | with_reducible exact Keeps.refl _ _ | with_reducible refine Keeps.drew ?_ | with_reducible refine Keeps.drewN ?_ _ | with_reducible refine Keeps.alloc ?_ _ | with_reducible refine Keeps.setCell ?_ ?_ _ | omega | focus (simp; done) | focus (simp; omega))))) wr.heap.size (fun k hk => (HO.out k hk).2) rfl rfl (cs := [.int .u8 y0, .int .u8 ((M : Int) + 2), .slice (some ⟨wr.heap.size + 1, 0, none⟩) M M]) (y := ([y0, (M : Int) + 2], rest2.take M)) ?hcells ?hrep (by have := HDL.out; omega) (by first | omega | (simp; omega)) (fun q' c2 w5 hr5 hs5 hk5 hb5 => hK _ _ ?_)
                case hcells =>
                  intro j u hu
                  rcases j with _ | _ | _ | j
                  · simp at hu; subst hu; go_simp
                  · simp at hu; subst hu; go_simp
                  · simp at hu; subst hu; go_simp
                  · simp at hu
                case hrep => exact ⟨_, _, _, rfl, rfl, (HSV.out.keeps (by repeat (first | with_reducible assumption | with_reducible exact Keeps.refl _ _ | with_reducible refine Keeps.drew ?_ | with_reducible refine Keeps.drewN ?_ _ | with_reducible refine Keeps.alloc ?_ _ | with_reducible refine Keeps.setCell ?_ ?_ _ | omega | focus (simp; done) | focus (simp; omega)))).imp (fun b _ hb => ⟨by omega, .inr (by omega)⟩), by omega, by omega, by simp; omega⟩
                refine step_and (SameOn.keeps (by repeat (first | with_reducible assumption | (with_reducible refine SameOn.refl (fun b hb => ?_); first | omega | (rcases hb with hb | hb <;> omega) | (rcases hb with hb | hb <;> simp <;> omega)) | with_reducible refine SameOn.drew ?_ | with_reducible refine SameOn.alloc ?_ _ | (refine SameOn.below ?_ (by with_reducible assumption)))) hk5 (fun b hb => by omega)) (fun _ => ?_)
                have hL5 : w5.cell? ⟨X, 21, none⟩ = some (.slice p done.length c') := hk5.cell (.inl lL) (by go_simp)
                have hf5 : w5.frozen? ⟨X, 21, none⟩ = false := hk5.frozen (.inl lL) (by first | omega | (simp; omega)) (by go_simp)
                have l5 : X < w5.heap.size := World.block_lt_of_cell? _ _ hL5
                have y5 : w5.cell? ⟨wr.heap.size, 1, none⟩ = some (.int .u8 ((M : Int) + 2)) := hk5.cell (.inr (Nat.le_refl _)) (by go_simp)
                have ly5 : wr.heap.size < w5.heap.size := World.block_lt_of_cell? _ _ y5
                have H5 := Lib.hid (HF.out.step (w5 := w5) (fun b hb => by omega) (show Below wr.heap.size wr _ from (by have h0 := HB2.out; exact (by repeat (first | with_reducible assumption | with_reducible refine Below.drew ?_ | with_reducible refine below_drewN' ?_ _ | with_reducible refine Below.alloc ?_ ?_ _ | with_reducible refine Below.setCell ?_ ?_ _ | with_reducible exact Nat.le_refl _ | omega | focus (simp; done) | focus (simp; omega))))) hr5 hs5 (hk5.imp (fun b hb => .inl hb)) hb5)
                clear hr5 hs5 hk5 hb5
                repeat
                  first | refine lexO_pass rfl ?_ | (refine lexO_take2 ?_ rfl (by kernel_rfl) (by with_reducible assumption) (fun w' hS K Q' hK => ?_) ?_; rotate_left; focus (have hS2 := hS.2; clear hS; go_wp2_with fail; exact hK))
                refine lexO_do rfl (fun K hK => ?_) lexO_stop
                go_wp2_with fail
                first | refine step_last (by decide) (lexO_done ?_) | refine lexO_done ?_
                go_wp2_with fail
                go_roundw
                case rel => exact ⟨j + (M + 2), _, done ++ [([y0, (M : Int) + 2], rest2.take M)], by have := HLR.out; omega, by have := HDJ.out; simp; omega, by first | go_num | (congr 1; omega), by have := H5.out; simpa using this, ReadsA.more HRD.out (by rw [HREST.out, dAttrs_more (K := M) rfl (by omega) (by have := HLR.out; omega), show j + (M + 2) = j + 2 + M by omega, ← List.drop_drop, ← List.drop_drop, HREST.out]; simp)⟩
                case measure => simp [intOf]; have := HLR.out; omega
end Go.Proofs.Ytaofambmajlhmaa
