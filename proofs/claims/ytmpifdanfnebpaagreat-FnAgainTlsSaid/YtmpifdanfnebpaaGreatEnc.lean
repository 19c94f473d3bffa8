/-
  An option of DHCPv6 is written into a buffer.
-/
import Derived.Test.YtmpifdanfnebpaaGreatSrcs
namespace Go.Proofs.YtmpifdanfnebpaaGreat
open Go Go.RowKit

theorem wp_copy_sb {o : Oper} {a : Act} {w : World} {K : Act → World → Prop} {Q : Exit → Act → World → Prop} (d s : Operand) (t t' : TypeId)
    (ho : o.op = .call { callee := .builtin .copy, args := #[d, s], argTypes := #[t, t'] }) (ht : Tryz.prog.underlying t = some (.slice 5))
    {A : Option Addr} {D k dLen dCap : Nat} {u : Value} {ok : Nat → Prop} {ds : List Int} (hd : a.eval d = .slice A dLen dCap) (hs : a.eval s = u) (hu : SB w ok u ds) (hlen : ds.length ≤ dLen) (hA : ds ≠ [] → A = some ⟨D, k, none⟩)
    (hc : ∀ j, j < ds.length → (w.cell? ⟨D, k + j, none⟩).isSome = true) (hf : ∀ j, j < ds.length → w.frozen? ⟨D, k + j, none⟩ = false)
    (hK : K (a.put o.dst (goInt ds.length)) (w.setCells D k (ds.map (.int .u8)))) : o.wp Tryz.prog a w K Q := by
  obtain ⟨p, c, rfl, -, -, -, hr⟩ := hu
  by_cases h0 : ds = []
  · subst h0
    exact wp_copy_none d s t t' 5 ho ht sz1B hd hs (by simp) hK
  · rcases hr with hr | ⟨b, o', rfl, -, -, hcell⟩
    · exact absurd (by simpa using hr) h0
    · obtain rfl := hA h0
      refine wp_copy_cells d s t t' 5 ho ht sz1B (b := D) (off := k) (cs := ds.map (.int .u8)) hd hs (by rw [List.length_map]; show ds.length = min ds.length dLen; omega) (fun j v hv => by rw [addr_add]; exact hcell j v hv)
        (fun j hj => hc j (by simpa using hj)) (fun j hj => hf j (by simpa using hj)) (ints_oneCell .u8 ds) ?_
      rwa [List.length_map]

set_option maxRecDepth 100000 in
set_option maxHeartbeats 4000000 in
theorem encode_c {w : World} {B D s O j n c : Nat} {bs ds : List Int} {a0 a1 n0 n1 : Int} {u : Value} (ha0 : 0 ≤ a0 ∧ a0 ≤ 255) (ha1 : 0 ≤ a1 ∧ a1 ≤ 255) (hn0 : 0 ≤ n0 ∧ n0 ≤ 255) (hn1 : 0 ≤ n1 ∧ n1 ≤ 255) (hh : Holds w B D s bs)
    (eOD : ¬ O = D) (c0 : w.cell? ⟨O, 0, none⟩ = some (.int .u16 (a0 * 256 + a1))) (c1 : w.cell? ⟨O, 1, none⟩ = some (.int .u16 (n0 * 256 + n1))) (c2 : w.cell? ⟨O, 2, none⟩ = some u) (hu : SB w (fun b => b ≠ D) u ds)
    (hj : j + n = bs.length) (hn : 4 + ds.length ≤ n) (hnc : n ≤ c) (hcm : c ≤ 9223372036854775807) :
    Calls Tryz.prog 120 #[.pointer (some ⟨O, 0, none⟩), .slice (some ⟨D, s + j, none⟩) n c, .agg #[.bool false, .bool false]] w fun e w' =>
      e = .returned .nilIface ∧ Holds w' B D s (bs.take j ++ (a0 :: a1 :: n0 :: n1 :: ds ++ bs.drop (j + 4 + ds.length))) ∧ Below D w w' ∧ Keeps (fun b => b ≠ D) w w' := by
  obtain ⟨Lb, hLb⟩ : ∃ L, L = bs.take j := ⟨_, rfl⟩
  obtain ⟨y0, y1, y2, y3, r, hr⟩ : ∃ a b c d r, bs.drop j = a :: b :: c :: d :: r := by
    have hl : 4 ≤ (bs.drop j).length := by rw [List.length_drop]; omega
    match bs.drop j, hl with
    | a :: b :: c :: d :: r, _ => exact ⟨a, b, c, d, r, rfl⟩
  have hL : Lb.length = j := by rw [hLb, List.length_take]; omega
  have hrl : r.length + 4 = n := by have := congrArg List.length hr; rw [List.length_drop, List.length_cons, List.length_cons, List.length_cons, List.length_cons] at this; omega
  have hbs : bs = Lb ++ (y0 :: y1 :: y2 :: y3 :: r) := by rw [hLb, ← hr, List.take_append_drop]
  have hrd : bs.drop (j + 4 + ds.length) = r.drop ds.length := by
    rw [Nat.add_assoc, ← List.drop_drop, hr, Nat.add_comm 4]
    rfl
  rw [hrd, ← hLb]
  subst hbs
  clear hLb hr hrd
  have hrow : ∀ i x, (y0 :: y1 :: y2 :: y3 :: r)[i]? = some x → w.cell? ⟨D, s + j + i, none⟩ = some (.int .u8 x) := by
    intro i x hx
    rw [Nat.add_assoc]
    refine hh.row (j + i) x ?_
    rw [List.getElem?_append_right (by omega), hL, Nat.add_sub_cancel_left]
    exact hx
  have d0 := hrow 0 _ rfl
  have d1 := hrow 1 _ rfl
  have d2 := hrow 2 _ rfl
  have d3 := hrow 3 _ rfl
  rw [Nat.add_zero] at d0
  have fd0 := hh.frD (s + j)
  have fd1 := hh.frD (s + j + 1)
  have fd2 := hh.frD (s + j + 2)
  have fd3 := hh.frD (s + j + 3)
  have lD : D < w.heap.size := hh.ltD
  have lO : O < w.heap.size := World.block_lt_of_cell? _ _ c0
  have lO1 : O < w.heap.size + 1 := by omega
  have lO2 : O < w.heap.size + 1 + 1 := by omega
  have lD1 : D < w.heap.size + 1 := by omega
  have lD2 : D < w.heap.size + 1 + 1 := by omega
  have b2 : (2 : Int) ≤ (c : Int) := by omega
  have b4 : (4 : Int) ≤ (c : Int) := by omega
  have b4n : (4 : Int) ≤ (n : Int) := by omega
  have e2 : ¬ c = 2 := by omega
  have eDO : ¬ D = O := by omega
  obtain ⟨A4, hA4⟩ : ∃ A, (if c = 4 then some (⟨D, s + j, none⟩ : Addr) else some ⟨D, s + j + 4, none⟩) = A := ⟨_, rfl⟩
  have HU := Lib.hid hu
  have HH := Lib.hid hh
  have HL := Lib.hid hL
  have HRL := Lib.hid hrl
  have HN := Lib.hid hn
  obtain ⟨pu, cu, rfl⟩ := hu.form
  clear hu hh hrow hL hj hrl hn
  go_enter Tryz.func120, Tryz.ntmps120
  go_wp2_with fail
  refine wp_region_same [7] (.q 0 (.q 1 (.q 2 (.q 3 (.q 4 (.q 5 (.q 6 (.l 7 .done .stop)))))))) (by kernel_rfl) (by kernel_rfl) (fun _ _ d _ _ h => by cases d <;> exact h) (by simp only [Ord.fill, nthOp]; rfl) ?_; intro hSm
  repeat
    first | refine lexO_pass rfl ?_ | (refine lexO_take2 ?_ rfl (by kernel_rfl) (by with_reducible assumption) (fun w' hS K Q' hK => ?_) ?_; rotate_left; focus (have hS2 := hS.2; clear hS; go_wp2_with fail; exact hK))
  refine lexO_do rfl (fun K hK => ?_) lexO_stop
  go_wp2_with (go_at_call 90; refine (put16_c a0 a1 (y0 := .int .u8 y0) (y1 := .int .u8 y1) (by omega) ha0 ha1 (by go_simp) (by go_simp) (by go_simp) (by go_simp)).mono ?_; rintro e w' ⟨rfl, rfl⟩)
  first | refine step_last (by decide) (lexO_done ?_) | refine lexO_done ?_
  go_wp2_with fail
  refine wp_region_same [7] (.q 0 (.q 1 (.q 2 (.q 3 (.q 4 (.q 5 (.q 6 (.l 7 .done .stop)))))))) (by kernel_rfl) (by kernel_rfl) (fun _ _ d _ _ h => by cases d <;> exact h) (by simp only [Ord.fill, nthOp]; rfl) ?_; intro hSm
  repeat
    first | refine lexO_pass rfl ?_ | (refine lexO_take2 ?_ rfl (by kernel_rfl) (by with_reducible assumption) (fun w' hS K Q' hK => ?_) ?_; rotate_left; focus (have hS2 := hS.2; clear hS; go_wp2_with fail; exact hK))
  refine lexO_do rfl (fun K hK => ?_) lexO_stop
  go_wp2_with (go_at_call 90; refine (put16_c n0 n1 (y0 := .int .u8 y2) (y1 := .int .u8 y3) (by omega) hn0 hn1 (by go_simp) (by go_simp) (by go_simp) (by go_simp)).mono ?_; rintro e w' ⟨rfl, rfl⟩)
  first | refine step_last (by decide) (lexO_done ?_) | refine lexO_done ?_
  go_wp2_with fail
  refine wp_gen (fun W => Holds W B D s (Lb ++ (a0 :: a1 :: n0 :: n1 :: r)) ∧ Below D w W ∧ Keeps (fun b => b ≠ D) w W ∧ O < W.heap.size ∧ W.cell? ⟨O, 2, none⟩ = some (.slice pu ds.length cu)) ?F (fun W hW => ?_)
  case F =>
    refine ⟨?_, ?_, Keeps.of_lt ?_, by first | omega | (simp; done) | (simp; omega), by go_simp⟩
    · have e : ∀ v0 v1 v2 v3, Lb ++ (v0 :: v1 :: v2 :: v3 :: r) = ((((Lb ++ (y0 :: y1 :: y2 :: y3 :: r)).set j v0).set (j + 1) v1).set (j + 2) v2).set (j + 3) v3 := by
        intro v0 v1 v2 v3
        have hL := HL.out
        rw [List.set_append_right _ _ (by omega), List.set_append_right _ _ (by omega), List.set_append_right _ _ (by omega), List.set_append_right _ _ (by omega), hL]
        simp
      rw [e]
      repeat (first | with_reducible exact HH.out | with_reducible refine Holds.drew ?_ | with_reducible refine Holds.drewN ?_ _ | with_reducible refine Holds.alloc ?_ _ | refine Holds.setw ?_ (by have := HL.out; simp; omega) (by omega) rfl)
    · have h0 := Below.refl D w
      exact (by repeat (first | with_reducible assumption | with_reducible refine Below.drew ?_ | with_reducible refine below_drewN' ?_ _ | with_reducible refine Below.alloc ?_ ?_ _ | with_reducible refine Below.setCell ?_ ?_ _ | with_reducible exact Nat.le_refl _ | omega | focus (simp; done) | focus (simp; omega)))
    · exact (by repeat (first | with_reducible assumption | with_reducible exact Keeps.refl _ _ | with_reducible refine Keeps.drew ?_ | with_reducible refine Keeps.drewN ?_ _ | with_reducible refine Keeps.alloc ?_ _ | with_reducible refine Keeps.setCell ?_ ?_ _ | omega | focus (simp; done) | focus (simp; omega)))
  obtain ⟨hW1, hW2, hW3, lOW, g2⟩ := hW
  clear d0 d1 d2 d3 fd0 fd1 fd2 fd3 c0 c1 c2 lO lD
  have lDW : D < W.heap.size := hW1.ltD
  have HW1 := Lib.hid hW1
  have HW2 := Lib.hid hW2
  have HW3 := Lib.hid hW3
  clear hW1 hW2 hW3
  refine wp_region_same [6] (.q 0 (.q 1 (.q 2 (.q 3 (.q 4 (.q 5 (.l 6 .done .stop))))))) (by kernel_rfl) (by kernel_rfl) (fun _ _ d _ _ h => by cases d <;> exact h) (by simp only [Ord.fill, nthOp]; rfl) ?_; intro hSm
  repeat
    first | refine lexO_pass rfl ?_ | (refine lexO_take2 ?_ rfl (by kernel_rfl) (by with_reducible assumption) (fun w' hS K Q' hK => ?_) ?_; rotate_left; focus (have hS2 := hS.2; clear hS; go_wp2_with fail; exact hK))
  refine lexO_do rfl (fun K hK => ?_) lexO_stop
  refine wp_copy_sb (.tmp 36) (.tmp 40) 22 22 rfl Tryz.underlying22 (D := D) (k := s + j + 4) (ds := ds) rfl rfl (HU.out.keeps (HW3.out.trans (by repeat (first | with_reducible assumption | with_reducible exact Keeps.refl _ _ | with_reducible refine Keeps.drew ?_ | with_reducible refine Keeps.drewN ?_ _ | with_reducible refine Keeps.alloc ?_ _ | with_reducible refine Keeps.setCell ?_ ?_ _ | omega | focus (simp; done) | focus (simp; omega))))) ?hlen ?hA ?hcc ?hff (hK _ _ (step_last (by decide) (lexO_done ?_)))
  case hlen => have := HN.out; omega
  case hA =>
    intro h
    have : 0 < ds.length := by
      cases ds with
      | nil => exact absurd rfl h
      | cons a l => simp
    rw [← hA4, if_neg (by have := HN.out; omega)]
  case hcc =>
    intro i hi
    rw [World.cell?_drew, show s + j + 4 + i = s + (j + 4 + i) by omega, HW1.out.row (j + 4 + i) _ (List.getElem?_eq_getElem (by have := HL.out; have := HRL.out; have := HN.out; simp; omega))]
    rfl
  case hff => exact fun i _ => HW1.out.frD _
  have hfin : Holds (W.drew.setCells D (s + j + 4) (ds.map (.int .u8))) B D s (Lb ++ (a0 :: a1 :: n0 :: n1 :: (ds ++ r.drop ds.length))) := by
    have h := HW1.out.drew.setCells (i := j + 4) (k := s + j + 4) (vs := ds) (by omega) (by have := HL.out; have := HRL.out; have := HN.out; simp; omega)
    have e1 : (Lb ++ (a0 :: a1 :: n0 :: n1 :: r)).take (j + 4) = Lb ++ [a0, a1, n0, n1] := by
      rw [List.take_append, List.take_of_length_le (by have := HL.out; omega), show j + 4 - Lb.length = 4 by have := HL.out; omega]
      rfl
    have e2 : (Lb ++ (a0 :: a1 :: n0 :: n1 :: r)).drop (j + 4 + ds.length) = r.drop ds.length := by
      rw [Nat.add_assoc, ← HL.out, ← List.drop_drop, List.drop_left, Nat.add_comm 4]
      rfl
    rw [e1, e2, List.append_assoc] at h
    exact h
  have hbel : Below D w (W.drew.setCells D (s + j + 4) (ds.map (.int .u8))) := below_setCells (Nat.le_refl _) _ _ HW2.out.drew
  have hkee : Keeps (fun b => b ≠ D) w (W.drew.setCells D (s + j + 4) (ds.map (.int .u8))) := keeps_setCells (by simp) _ _ HW3.out.drew
  have HFIN := Lib.hid hfin
  have HBEL := Lib.hid hbel
  have HKEE := Lib.hid hkee
  clear hfin hbel hkee
  generalize W.drew.setCells D (s + j + 4) (ds.map (.int .u8)) = W2 at *
  go_wp2_with fail
  refine bodyPost_ret (v := .nilIface) (by simp only [results, Tryz.results120]; go_simp) rfl ⟨rfl, HFIN.out, HBEL.out, HKEE.out⟩
end Go.Proofs.YtmpifdanfnebpaaGreat
