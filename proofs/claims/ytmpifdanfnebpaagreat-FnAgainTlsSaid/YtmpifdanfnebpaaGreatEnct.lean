/-
  The header of a record of TLS is written into a buffer.
-/
import Derived.Test.YtmpifdanfnebpaaGreatEnc
namespace Go.Proofs.YtmpifdanfnebpaaGreat
open Go Go.RowKit

set_option maxRecDepth 100000 in
set_option maxHeartbeats 4000000 in
theorem enct_c {w : World} {B D s j K c : Nat} {bs : List Int} {a v n : Int} (hv : 0 ≤ v ∧ v ≤ 65535) (hn : 0 ≤ n ∧ n ≤ 65535) (hh : Holds w B D s bs)
    (hK : K = bs.length) (hj : j + 5 ≤ K) (hnc : K ≤ c) (hcm : c ≤ 3000000) :
    Calls Tryz.prog 138 #[.agg #[.int .u8 a, .int .u16 v, .int .u16 n], .slice (some ⟨D, s, none⟩) K c, .int .i64 (j : Int)] w fun e w' =>
      e = .returned (.int .i64 ((j : Int) + 5)) ∧ Holds w' B D s (bs.take j ++ (a :: v / 256 :: v % 256 :: n / 256 :: n % 256 :: bs.drop (j + 5))) ∧ Below D w w' ∧ Keeps (fun b => b ≠ D) w w' := by
  obtain ⟨v0, v1, hv2, hv0, hv1⟩ : ∃ x y : Int, v = x * 256 + y ∧ (0 ≤ x ∧ x ≤ 255) ∧ (0 ≤ y ∧ y ≤ 255) := ⟨v / 256, v % 256, by omega, by omega, by omega⟩
  obtain ⟨n0, n1, hn2, hn0, hn1⟩ : ∃ x y : Int, n = x * 256 + y ∧ (0 ≤ x ∧ x ≤ 255) ∧ (0 ≤ y ∧ y ≤ 255) := ⟨n / 256, n % 256, by omega, by omega, by omega⟩
  rw [show v / 256 = v0 by omega, show v % 256 = v1 by omega, show n / 256 = n0 by omega, show n % 256 = n1 by omega]
  subst hv2 hn2
  obtain ⟨Lb, hLb⟩ : ∃ L, L = bs.take j := ⟨_, rfl⟩
  obtain ⟨y0, y1, y2, y3, y4, r, hr⟩ : ∃ a b c d e r, bs.drop j = a :: b :: c :: d :: e :: r := by
    have hl : 5 ≤ (bs.drop j).length := by rw [List.length_drop]; omega
    match bs.drop j, hl with
    | a :: b :: c :: d :: e :: r, _ => exact ⟨a, b, c, d, e, r, rfl⟩
  have hL : Lb.length = j := by rw [hLb, List.length_take]; omega
  have hrl : j + (r.length + 5) = K := by have := congrArg List.length hr; rw [List.length_drop, List.length_cons, List.length_cons, List.length_cons, List.length_cons, List.length_cons] at this; omega
  have hbs : bs = Lb ++ (y0 :: y1 :: y2 :: y3 :: y4 :: r) := by rw [hLb, ← hr, List.take_append_drop]
  have hrd : bs.drop (j + 5) = r := by
    rw [← List.drop_drop, hr]
    rfl
  rw [hrd, ← hLb]
  subst hbs
  clear hLb hr hrd
  have hrow : ∀ i x, (y0 :: y1 :: y2 :: y3 :: y4 :: r)[i]? = some x → w.cell? ⟨D, s + (j + i), none⟩ = some (.int .u8 x) := by
    intro i x hx
    refine hh.row (j + i) x ?_
    rw [List.getElem?_append_right (by omega), hL, Nat.add_sub_cancel_left]
    exact hx
  have d0 := hrow 0 _ rfl
  have d1 := hrow 1 _ rfl
  have d2 := hrow 2 _ rfl
  have d3 := hrow 3 _ rfl
  have d4 := hrow 4 _ rfl
  rw [Nat.add_zero] at d0
  have fd0 := hh.frD (s + j)
  have fd1 := hh.frD (s + (j + 1))
  have fd2 := hh.frD (s + (j + 2))
  have fd3 := hh.frD (s + (j + 3))
  have fd4 := hh.frD (s + (j + 4))
  have d2' : w.cell? ⟨D, s + (j + 1) + 1, none⟩ = _ := d2
  have d4' : w.cell? ⟨D, s + (j + 3) + 1, none⟩ = _ := d4
  have fd2' := hh.frD (s + (j + 1) + 1)
  have fd4' := hh.frD (s + (j + 3) + 1)
  have lD : D < w.heap.size := hh.ltD
  have lD1 : D < w.heap.size + 1 := by omega
  have lD2 : D < w.heap.size + 1 + 1 := by omega
  have jK : (j : Int) < (K : Int) := by omega
  have jK1 : (j : Int) + 1 ≤ (K : Int) := by omega
  have jK3 : (j : Int) + 3 ≤ (K : Int) := by omega
  have jc1 : (j : Int) + 1 ≤ (c : Int) := by omega
  have jc3 : (j : Int) + 3 ≤ (c : Int) := by omega
  have ec1 : ¬ c = j + 1 := by omega
  have ec3 : ¬ c = j + 3 := by omega
  have HH := Lib.hid hh
  have HL := Lib.hid hL
  have HRL := Lib.hid hrl
  clear hh hrow hL hrl hK
  go_enter Tryz.func138, Tryz.ntmps138
  go_wp2_with fail
  refine wp_region_same [7] (.q 0 (.q 1 (.q 2 (.q 3 (.q 4 (.q 5 (.q 6 (.l 7 .done .stop)))))))) (by kernel_rfl) (by kernel_rfl) (fun _ _ d _ _ h => by cases d <;> exact h) (by simp only [Ord.fill, nthOp]; rfl) ?_; intro hSm
  repeat
    first | refine lexO_pass rfl ?_ | (refine lexO_take2 ?_ rfl (by kernel_rfl) (by with_reducible assumption) (fun w' hS K Q' hK => ?_) ?_; rotate_left; focus (have hS2 := hS.2; clear hS; go_wp2_with fail; exact hK))
  refine lexO_do rfl (fun K' hK' => ?_) lexO_stop
  go_wp2_with (go_at_call 90; refine (put16_c v0 v1 (y0 := .int .u8 y1) (y1 := .int .u8 y2) (by omega) hv0 hv1 (by go_simp) (by go_simp) (by go_simp) (by go_simp)).mono ?_; rintro e w' ⟨rfl, rfl⟩)
  first | refine step_last (by decide) (lexO_done ?_) | refine lexO_done ?_
  go_wp2_with fail
  refine wp_region_same [7] (.q 0 (.q 1 (.q 2 (.q 3 (.q 4 (.q 5 (.q 6 (.l 7 .done .stop)))))))) (by kernel_rfl) (by kernel_rfl) (fun _ _ d _ _ h => by cases d <;> exact h) (by simp only [Ord.fill, nthOp]; rfl) ?_; intro hSm
  repeat
    first | refine lexO_pass rfl ?_ | (refine lexO_take2 ?_ rfl (by kernel_rfl) (by with_reducible assumption) (fun w' hS K Q' hK => ?_) ?_; rotate_left; focus (have hS2 := hS.2; clear hS; go_wp2_with fail; exact hK))
  refine lexO_do rfl (fun K' hK' => ?_) lexO_stop
  go_wp2_with (go_at_call 90; refine (put16_c n0 n1 (y0 := .int .u8 y3) (y1 := .int .u8 y4) (by omega) hn0 hn1 (by go_simp) (by go_simp) (by go_simp) (by go_simp)).mono ?_; rintro e w' ⟨rfl, rfl⟩)
  first | refine step_last (by decide) (lexO_done ?_) | refine lexO_done ?_
  go_wp2_with fail
  refine bodyPost_ret (v := .int .i64 ((j : Int) + 5)) (by simp only [results, Tryz.results138]; go_simp) rfl ⟨rfl, ?_, ?_, Keeps.of_lt ?_⟩
  · have e : ∀ u0 u1 u2 u3 u4, Lb ++ (u0 :: u1 :: u2 :: u3 :: u4 :: r) = (((((Lb ++ (y0 :: y1 :: y2 :: y3 :: y4 :: r)).set j u0).set (j + 1) u1).set (j + 2) u2).set (j + 3) u3).set (j + 4) u4 := by
      intro u0 u1 u2 u3 u4
      have hL := HL.out
      rw [List.set_append_right _ _ (by omega), List.set_append_right _ _ (by omega), List.set_append_right _ _ (by omega), List.set_append_right _ _ (by omega), List.set_append_right _ _ (by omega), hL]
      simp
    rw [e]
    repeat (first | with_reducible exact HH.out | with_reducible refine Holds.drew ?_ | with_reducible refine Holds.drewN ?_ _ | with_reducible refine Holds.alloc ?_ _ | refine Holds.setw ?_ (by have := HL.out; simp; omega) (by omega) rfl)
  · have h0 := Below.refl D w
    exact (by repeat (first | with_reducible assumption | with_reducible refine Below.drew ?_ | with_reducible refine below_drewN' ?_ _ | with_reducible refine Below.alloc ?_ ?_ _ | with_reducible refine Below.setCell ?_ ?_ _ | with_reducible exact Nat.le_refl _ | omega | focus (simp; done) | focus (simp; omega)))
  · exact (by repeat (first | with_reducible assumption | with_reducible exact Keeps.refl _ _ | with_reducible refine Keeps.drew ?_ | with_reducible refine Keeps.drewN ?_ _ | with_reducible refine Keeps.alloc ?_ _ | with_reducible refine Keeps.setCell ?_ ?_ _ | omega | focus (simp; done) | focus (simp; omega)))
/-- A buffer that is filled from its start on: P is written, the rest lies as in zs. -/
def Ahead (w : World) (B D s : Nat) (P zs : List Int) : Prop := P.length ≤ zs.length ∧ Holds w B D s (P ++ zs.drop P.length)
theorem ahead_len {P zs : List Int} (h : P.length ≤ zs.length) : (P ++ zs.drop P.length).length = zs.length := by
  rw [List.length_append, List.length_drop]
  omega
theorem Ahead.keeps {w w' : World} {B D s : Nat} {P zs : List Int} (h : Ahead w B D s P zs) (k : Below w.heap.size w w') : Ahead w' B D s P zs := ⟨h.1, h.2.keeps k⟩
theorem Ahead.start {w : World} {B D s : Nat} {zs : List Int} (h : Holds w B D s zs) : Ahead w B D s [] zs := ⟨Nat.zero_le _, by simpa using h⟩
theorem Ahead.cell {w : World} {B D s : Nat} {P zs : List Int} (h : Ahead w B D s P zs) {i : Nat} (hi : i < zs.length) : ∃ x, w.cell? ⟨D, s + i, none⟩ = some (.int .u8 x) := by
  have hl := ahead_len h.1
  exact ⟨_, h.2.row i _ (List.getElem?_eq_getElem (by omega))⟩
theorem Ahead.next {w : World} {B D s : Nat} {P zs : List Int} (h : Ahead w B D s P zs) (hl : P.length < zs.length) {k : Nat} (hk : k = s + P.length) {x : Int} {v : Value} (hv : v = .int .u8 x) : Ahead (w.setCell ⟨D, k, none⟩ v) B D s (P ++ [x]) zs := by
  have hlen := ahead_len h.1
  refine ⟨by simp; omega, ?_⟩
  have h1 := h.2.setw (i := P.length) (by omega) hk hv
  have e : (P ++ zs.drop P.length).set P.length x = (P ++ [x]) ++ zs.drop (P ++ [x]).length := by
    have e0 := List.drop_eq_getElem_cons hl
    rw [List.set_append_right _ _ (Nat.le_refl _), Nat.sub_self, e0, List.length_append]
    simp only [List.set_cons_zero, List.append_assoc, List.singleton_append, List.length_singleton]
  rw [e] at h1
  exact h1
theorem Ahead.put {w : World} {B D s : Nat} {P zs d : List Int} (h : Ahead w B D s P zs) (hl : P.length + d.length ≤ zs.length) {k : Nat} (hk : k = s + P.length) : Ahead (w.setCells D k (d.map (.int .u8))) B D s (P ++ d) zs := by
  have hlen := ahead_len h.1
  refine ⟨by simp; omega, ?_⟩
  have h1 := h.2.setCells (i := P.length) (vs := d) hk (by omega)
  have e1 : (P ++ zs.drop P.length).take P.length = P := by rw [List.take_left]
  have e2 : (P ++ zs.drop P.length).drop (P.length + d.length) = zs.drop (P ++ d).length := by
    rw [← List.drop_drop, List.drop_left, List.drop_drop, List.length_append]
  rw [e1, e2, ← List.append_assoc] at h1
  exact h1
theorem Ahead.all {w : World} {B D s : Nat} {P zs : List Int} (h : Ahead w B D s P zs) (hl : P.length = zs.length) : Holds w B D s P := by
  have h1 := h.2
  rw [List.drop_eq_nil_of_le (by omega), List.append_nil] at h1
  exact h1

theorem enct_a {w : World} {B D s j K c : Nat} {P zs : List Int} {a v n : Int} (hv : 0 ≤ v ∧ v ≤ 65535) (hn : 0 ≤ n ∧ n ≤ 65535) (hh : Ahead w B D s P zs)
    (hj : j = P.length) (hK : K = zs.length) (hl : j + 5 ≤ K) (hnc : K ≤ c) (hcm : c ≤ 3000000) :
    Calls Tryz.prog 138 #[.agg #[.int .u8 a, .int .u16 v, .int .u16 n], .slice (some ⟨D, s, none⟩) K c, .int .i64 (j : Int)] w fun e w' =>
      e = .returned (.int .i64 ((j : Int) + 5)) ∧ Ahead w' B D s (P ++ [a, v / 256, v % 256, n / 256, n % 256]) zs ∧ Below D w w' ∧ Keeps (fun b => b ≠ D) w w' := by
  have hlen := ahead_len hh.1
  refine (enct_c (j := j) hv hn hh.2 (by omega) hl hnc hcm).mono ?_
  rintro e w' ⟨he, h1, h2, h3⟩
  refine ⟨he, ⟨by simp; omega, ?_⟩, h2, h3⟩
  have e1 : (P ++ zs.drop P.length).take j = P := by rw [hj, List.take_left]
  have e2 : (P ++ zs.drop P.length).drop (j + 5) = zs.drop (P ++ [a, v / 256, v % 256, n / 256, n % 256]).length := by
    rw [hj, ← List.drop_drop, List.drop_left, List.drop_drop, List.length_append]
    rfl
  rw [e1, e2] at h1
  simpa using h1
end Go.Proofs.YtmpifdanfnebpaaGreat
