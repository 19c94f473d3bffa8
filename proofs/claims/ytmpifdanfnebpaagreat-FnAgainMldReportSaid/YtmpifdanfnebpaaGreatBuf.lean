/-
  The buffer into which a layer is written: what it holds, and what its methods make of that.
-/
import Derived.Test.YtmpifdanfnebpaaGreatVoc
import Derived.Test.YtmpifdanfnebpaaGreatCopy
import Derived.Test.YtmpifdanfnebpaaGreatBits
import Derived.Deep.OwnRows
namespace Go.Proofs.YtmpifdanfnebpaaGreat
open Go Go.RowKit

/-- A buffer at B holds the bytes bs: they lie in block D from place s on. -/
structure Holds (w : World) (B D s : Nat) (bs : List Int) : Prop where
  lt : B < D
  ltD : D < w.heap.size
  pos : 0 < bs.length
  data : w.cell? ⟨B, 0, none⟩ = some (.slice (some ⟨D, 0, none⟩) (s + bs.length) (s + bs.length))
  start : w.cell? ⟨B, 1, none⟩ = some (.int .i64 (s : Int))
  prep : ∃ pp : Nat, w.cell? ⟨B, 2, none⟩ = some (.int .i64 (pp : Int)) ∧ pp ≤ s + bs.length ∧ pp ≤ 2 * bs.length ∧ s ≤ pp
  frB : ∀ j, w.frozen? ⟨B, j, none⟩ = false
  frD : ∀ j, w.frozen? ⟨D, j, none⟩ = false
  row : ∀ (j : Nat) x, bs[j]? = some x → w.cell? ⟨D, s + j, none⟩ = some (.int .u8 x)
  pre : ∀ j, j < s → ∃ x, w.cell? ⟨D, j, none⟩ = some (.int .u8 x)

/-- A buffer at B in which nothing lies yet. -/
structure Bare (w : World) (B : Nat) : Prop where
  lt : B < w.heap.size
  data : w.cell? ⟨B, 0, none⟩ = some (.slice none 0 0)
  start : w.cell? ⟨B, 1, none⟩ = some (.int .i64 0)
  prep : w.cell? ⟨B, 2, none⟩ = some (.int .i64 0)
  app : w.cell? ⟨B, 3, none⟩ = some (.int .i64 0)
  frB : ∀ j, w.frozen? ⟨B, j, none⟩ = false

def Buf (w : World) (B : Nat) (bs : List Int) : Prop := (bs = [] ∧ Bare w B) ∨ ∃ D s, Holds w B D s bs

/-- A byte is set. -/
theorem Holds.set {w : World} {B D s : Nat} {bs : List Int} (h : Holds w B D s bs) {i : Nat} (hi : i < bs.length) {k : Nat} (hk : k = s + i) (x : Int) : Holds (w.setCell ⟨D, k, none⟩ (.int .u8 x)) B D s (bs.set i x) := by
  subst hk
  obtain ⟨h1, h2, h3, h4, h5, ⟨pp, h6, h7⟩, h8, h9, h10, h11⟩ := h

  have hB : ∀ j u, w.cell? ⟨B, j, none⟩ = some u → (w.setCell ⟨D, s + i, none⟩ (.int .u8 x)).cell? ⟨B, j, none⟩ = some u := fun j u hu => by
    rw [World.cell?_setCell_other _ _ _ _ (by simp)]
    exact hu
  refine ⟨h1, by simpa using h2, by simpa using h3, by simpa using hB _ _ h4, hB _ _ h5, ⟨pp, hB _ _ h6, by simpa using h7⟩, fun j => by rw [World.frozen?_setCell]; exact h8 j, fun j => by rw [World.frozen?_setCell]; exact h9 j, fun j y hy => ?_, fun j hj => ?_⟩
  · rw [List.getElem?_set] at hy
    by_cases hij : i = j
    · subst hij
      simp only [if_true, hi, Option.some.injEq] at hy
      subst hy
      exact World.cell?_setCell_same _ _ _ (h10 i _ (List.getElem?_eq_getElem hi))
    · rw [if_neg hij] at hy
      rw [World.cell?_setCell_other _ _ _ _ (by simp)]
      exact h10 j y hy
  · obtain ⟨y, hy⟩ := h11 j hj
    exact ⟨y, by rw [World.cell?_setCell_other _ _ _ _ (by intro e; have := congrArg Addr.off e; simp at this; omega)]; exact hy⟩

theorem Holds.keeps {w w' : World} {B D s : Nat} {bs : List Int} (h : Holds w B D s bs) (k : Below w.heap.size w w') : Holds w' B D s bs := by
  obtain ⟨h1, h2, h3, h4, h5, ⟨pp, h6, h7⟩, h8, h9, h10, h11⟩ := h
  have hB : B < w.heap.size := Nat.lt_trans h1 h2
  refine ⟨h1, Nat.lt_of_lt_of_le h2 k.size, h3, (k.cell (p := ⟨B, 0, none⟩) hB).trans h4, (k.cell (p := ⟨B, 1, none⟩) hB).trans h5, ⟨pp, (k.cell (p := ⟨B, 2, none⟩) hB).trans h6, h7⟩, fun j => (k.frozen (p := ⟨B, j, none⟩) hB).trans (h8 j), fun j => (k.frozen (p := ⟨D, j, none⟩) h2).trans (h9 j), fun j x hx => (k.cell (p := ⟨D, s + j, none⟩) h2).trans (h10 j x hx), fun j hj => ?_⟩
  obtain ⟨y, hy⟩ := h11 j hj
  exact ⟨y, (k.cell (p := ⟨D, j, none⟩) h2).trans hy⟩

/-- The bytes of a buffer, as a slice. -/
theorem Holds.bytes {w : World} {B D s : Nat} {bs : List Int} (h : Holds w B D s bs) (hl : bs.length ≤ 9223372036854775807) : SB w (fun _ => True) (.slice (some ⟨D, s, none⟩) bs.length bs.length) bs := by
  refine ⟨_, _, rfl, Nat.le_refl _, hl, fun h => (by cases h), .inr ⟨D, s, rfl, trivial, h.ltD, fun j u hu => ?_⟩⟩
  rw [List.getElem?_map] at hu
  obtain ⟨x, hx, rfl⟩ := Option.map_eq_some_iff.1 hu
  exact h.row j x hx

theorem setCell2 (w : World) (b o : Nat) (v v' : Value) : (w.setCell ⟨b, o, none⟩ v).setCell ⟨b, o, none⟩ v' = w.setCell ⟨b, o, none⟩ v' := by
  simp only [World.setCell, World.mk.injEq, and_true]
  apply Array.ext_getElem?
  intro i
  simp only [Array.getElem?_modify]
  split
  · rename_i h
    cases w.heap[i]? with
    | none => rfl
    | some x => cases x <;> simp
  · rfl

theorem set3 {α : Type} (c : Array α) (o o' : Nat) (a x d : α) : ((c.setIfInBounds o a).setIfInBounds o' x).setIfInBounds o d = (c.setIfInBounds o' x).setIfInBounds o d := by
  apply Array.ext_getElem?
  intro i
  simp only [Array.getElem?_setIfInBounds, Array.size_setIfInBounds]
  by_cases h1 : o = i
  · simp [h1]
  · simp [h1]

theorem setCell3 (w : World) (b o o' : Nat) (v x v' : Value) : ((w.setCell ⟨b, o, none⟩ v).setCell ⟨b, o', none⟩ x).setCell ⟨b, o, none⟩ v' = (w.setCell ⟨b, o', none⟩ x).setCell ⟨b, o, none⟩ v' := by
  simp only [World.setCell, World.mk.injEq, and_true]
  apply Array.ext_getElem?
  intro i
  simp only [Array.getElem?_modify]
  split
  · rename_i h
    cases w.heap[i]? with
    | none => rfl
    | some y => cases y <;> simp [set3]
  · rfl

theorem wp_copy_none {o : Oper} {a : Act} {w : World} {K : Act → World → Prop} {Q : Exit → Act → World → Prop} (d s : Operand) (t t' e : TypeId)
    (ho : o.op = .call { callee := .builtin .copy, args := #[d, s], argTypes := #[t, t'] }) (ht : Tryz.prog.underlying t = some (.slice e)) (hsz : (Tryz.prog.info? e).map (·.size) = some 1)
    {p q : Option Addr} {dLen dCap sLen sCap : Nat} (hd : a.eval d = .slice p dLen dCap) (hs : a.eval s = .slice q sLen sCap) (hn : Nat.min sLen dLen = 0) (hK : K (a.put o.dst (goInt 0)) w) : o.wp Tryz.prog a w K Q := by
  have hrun := run_copy_none (P := Tryz.prog) w t t' o.type e p q dLen dCap sLen sCap ht hsz hn
  unfold Oper.wp
  simp [execOp, ho, resolve, invoke, builtin, hd, hs, hrun, Result.andThen]
  exact hK

theorem bare_new {w : World} {e : TypeId} {l : Value} : Bare (w.alloc (.cells #[.slice none 0 0, .int .i64 0, .int .i64 0, .int .i64 0, l] e)) w.heap.size :=
  ⟨by simp, World.cell?_alloc_new .., World.cell?_alloc_new .., World.cell?_alloc_new .., World.cell?_alloc_new .., fun _ => World.frozen?_alloc_new ..⟩

theorem made_cell {n j : Nat} (hj : j < n) : (madeCells #[Value.int .u8 0] n)[j]? = some (.int .u8 0) := by simp [madeCells, hj, Nat.mod_one]
theorem cell_last {W : World} {cs : Array Value} {e : TypeId} {n : Nat} (h : n = W.heap.size) (j : Nat) : (W.alloc (.cells cs e)).cell? ⟨n, j, none⟩ = cs[j]? := by subst h; exact World.cell?_alloc_new ..
theorem replicate_get {n j : Nat} {x : Int} (h : (List.replicate n (0 : Int))[j]? = some x) : j < n ∧ x = 0 := by
  rw [List.getElem?_replicate] at h
  split at h
  · rename_i hj
    exact ⟨hj, (Option.some.inj h).symm⟩
  · cases h
theorem addr_add (b o j : Nat) : (⟨b, o, none⟩ : Addr).add j = ⟨b, o + j, none⟩ := by
  unfold Addr.add
  split
  · rename_i h; subst h; rfl
  · rfl
theorem size_setCells (b : Nat) : ∀ (vs : List Value) (o : Nat) (w : World), (w.setCells b o vs).heap.size = w.heap.size
  | [], _, _ => rfl
  | v :: r, o, w => by rw [World.setCells, size_setCells b r]; simp
theorem below_setCells {B b : Nat} (hb : B ≤ b) {a : World} : ∀ (vs : List Value) (o : Nat) {w : World}, Below B a w → Below B a (w.setCells b o vs)
  | [], _, _, h => h
  | v :: r, o, w, h => by rw [World.setCells]; exact below_setCells hb r (o + 1) (h.setCell hb v)
theorem cell_setCells {b c j : Nat} (hb : ¬ c = b) (vs : List Value) (o : Nat) (w : World) : (w.setCells b o vs).cell? ⟨c, j, none⟩ = w.cell? ⟨c, j, none⟩ :=
  World.cell?_setCells_out b vs o w _ (fun h _ => absurd h hb)
theorem Keeps.of_lt {ok : Nat → Prop} {w w' : World} (h : Keeps (fun b => ok b ∧ b < w.heap.size) w w') : Keeps ok w w' := ⟨h.size, fun b ho hb => h.block b ⟨ho, hb⟩ hb⟩
theorem keeps_setCells {ok : Nat → Prop} {b : Nat} (hb : ¬ ok b) {a : World} : ∀ (vs : List Value) (o : Nat) {w : World}, Keeps ok a w → Keeps ok a (w.setCells b o vs)
  | [], _, _, h => h
  | v :: r, o, w, h => by rw [World.setCells]; exact keeps_setCells hb r (o + 1) (h.setCell hb v)
theorem sz1B : (Tryz.prog.info? 5).map (·.size) = some 1 := by kernel_rfl

set_option maxHeartbeats 2000000 in
theorem append_none {w : World} {B : Nat} (h : Bare w B) : Calls Tryz.prog 139 #[.pointer (some ⟨B, 0, none⟩), .int .i64 0] w fun e w' =>
    e = .returned (.tuple #[.slice none 0 0, .nilIface]) ∧ w.setCell ⟨B, 0, none⟩ (.slice none 0 0) = w' := by
  obtain ⟨lB, c0, c1, c2, c3, fr⟩ := h
  have f0 := fr 0
  go_enter Tryz.func139, Tryz.ntmps139
  go_wp2
  refine bodyPost_ret (v := .tuple #[.slice none 0 0, .nilIface]) (by simp only [results, Tryz.results139]; go_simp) rfl ⟨rfl, rfl⟩

set_option maxHeartbeats 2000000 in
theorem append_some {w : World} {B n : Nat} (h : Bare w B) (h0 : 0 < n) (hn : n ≤ 2000) : Calls Tryz.prog 139 #[.pointer (some ⟨B, 0, none⟩), .int .i64 (n : Int)] w fun e w' =>
    ∃ D, e = .returned (.tuple #[.slice (some ⟨D, 0, none⟩) n n, .nilIface]) ∧ Holds w' B D 0 (List.replicate n 0) ∧ Below B w w' := by
  obtain ⟨lB, c0, c1, c2, c3, fr⟩ := h
  have f0 := fr 0
  have f3 := fr 3
  have n0 : ¬ ((n : Int) < 0) := by omega
  have hss : ∀ (w : World) v v', (w.setCell ⟨B, 0, none⟩ v).setCell ⟨B, 0, none⟩ v' = w.setCell ⟨B, 0, none⟩ v' := fun w v v' => setCell2 w B 0 v v'
  have lB1 : B < w.heap.size + 1 := by omega
  have eB1 : ¬ B = w.heap.size := by omega
  have eB2 : ¬ w.heap.size = B := by omega
  have n1 : (0 : Int) < (n : Int) := by omega
  have hmk := run_make_row' (P := Tryz.prog) 22 5 (.int .u8 0) 1 Tryz.underlying22 Tryz.infoB rfl .i64 .i64 n (by omega) (by omega)
  go_enter Tryz.func139, Tryz.ntmps139
  go_wp2_with fail
  refine wp_region_same [15] (.q 0 (.q 1 (.q 2 (.q 3 (.q 4 (.q 5 (.q 6 (.q 7 (.q 8 (.q 9 (.q 10 (.q 11 (.q 12 (.q 13 (.q 14 (.l 15 .done .stop)))))))))))))))) (by kernel_rfl) (by kernel_rfl) (fun _ _ d _ _ h => by cases d <;> exact h) (by simp only [Ord.fill, nthOp]; rfl) ?_; intro hSm
  repeat
    first | refine lexO_pass rfl ?_ | (refine lexO_take2 ?_ rfl (by kernel_rfl) (by with_reducible assumption) (fun w' hS K Q' hK => ?_) ?_; rotate_left; focus (have hS2 := hS.2; clear hS; go_wp2_with fail; exact hK))
  refine lexO_do rfl (fun K hK => ?_) lexO_stop
  refine wp_copy_none (.tmp 55) (.tmp 64) 22 22 5 rfl Tryz.underlying22 sz1B rfl rfl (by simp) (hK _ _ (step_last (by decide) (lexO_done ?_)))
  go_wp2
  refine bodyPost_ret (v := .tuple #[.slice (some ⟨w.heap.size, 0, none⟩) n n, .nilIface]) (by simp only [results, Tryz.results139]; go_simp) rfl ⟨w.heap.size, rfl, ⟨by omega, ?_, by simpa using h0, by go_simp, by go_simp, ⟨0, by go_simp, by omega, by omega, Nat.le_refl _⟩, fun j => by go_simp, fun j => by go_simp, fun j x hx => ?_, fun j hj => by omega⟩, ?_⟩
  · simp
  · obtain ⟨hj, rfl⟩ := replicate_get hx
    rw [Nat.zero_add, World.cell?_drew]
    exact (cell_last (by simp) j).trans (made_cell hj)
  · have h0 := Below.refl B w
    exact (by repeat (first | with_reducible assumption | with_reducible refine Below.drew ?_ | with_reducible refine below_drewN' ?_ _ | with_reducible refine Below.alloc ?_ ?_ _ | with_reducible refine Below.setCell ?_ ?_ _ | with_reducible exact Nat.le_refl _ | omega | focus (simp; done) | focus (simp; omega)))

set_option maxHeartbeats 2000000 in
theorem prepend_bare {w : World} {B k : Nat} (h : Bare w B) (h0 : 0 < k) (hk : k ≤ 1000000) : Calls Tryz.prog 143 #[.pointer (some ⟨B, 0, none⟩), .int .i64 (k : Int)] w fun e w' =>
    ∃ D, e = .returned (.tuple #[.slice (some ⟨D, 0, none⟩) k k, .nilIface]) ∧ Holds w' B D 0 (List.replicate k 0) ∧ Below B w w' ∧ Keeps (fun b => b ≠ B) w w' ∧ w.heap.size ≤ D := by
  obtain ⟨lB, c0, c1, c2, c3, fr⟩ := h
  have f0 := fr 0
  have f1 := fr 1
  have f2 := fr 2
  have n0 : ¬ ((k : Int) < 0) := by omega
  have hss1 : ∀ (w : World) v x v', ((w.setCell ⟨B, 1, none⟩ v).setCell ⟨B, 0, none⟩ x).setCell ⟨B, 1, none⟩ v' = (w.setCell ⟨B, 0, none⟩ x).setCell ⟨B, 1, none⟩ v' := fun w v x v' => setCell3 w B 1 0 v x v'
  have lB1 : B < w.heap.size + 1 := by omega
  have eB1 : ¬ B = w.heap.size := by omega
  have eB2 : ¬ w.heap.size = B := by omega
  have n1 : (0 : Int) < (k : Int) := by omega
  have hmk := run_make_row' (P := Tryz.prog) 22 5 (.int .u8 0) 1 Tryz.underlying22 Tryz.infoB rfl .i64 .i64 k (by omega) (by omega)
  go_enter Tryz.func143, Tryz.ntmps143
  go_wp2_with fail
  refine wp_region_same [12] (.q 0 (.q 1 (.q 2 (.q 3 (.q 4 (.q 5 (.q 6 (.q 7 (.q 8 (.q 9 (.q 10 (.q 11 (.l 12 .done .stop))))))))))))) (by kernel_rfl) (by kernel_rfl) (fun _ _ d _ _ h => by cases d <;> exact h) (by simp only [Ord.fill, nthOp]; rfl) ?_; intro hSm
  repeat
    first | refine lexO_pass rfl ?_ | (refine lexO_take2 ?_ rfl (by kernel_rfl) (by with_reducible assumption) (fun w' hS K Q' hK => ?_) ?_; rotate_left; focus (have hS2 := hS.2; clear hS; go_wp2_with fail; exact hK))
  refine lexO_do rfl (fun K hK => ?_) lexO_stop
  refine wp_copy_none (.tmp 52) (.tmp 61) 22 22 5 rfl Tryz.underlying22 sz1B rfl rfl (by simp) (hK _ _ (step_last (by decide) (lexO_done ?_)))
  go_wp2_with fail
  refine wp_region_same [] (.q 0 (.q 1 (.q 2 (.q 3 (.q 4 (.q 5 (.q 6 (.q 7 (.q 8 (.q 9 (.q 10 (.q 11 (.q 12 (.q 13 (.q 14 (.q 15 (.q 16 .done))))))))))))))))) (by kernel_rfl) (by kernel_rfl) (fun _ _ d _ _ h => by cases d <;> exact h) (by simp only [Ord.fill, nthOp]; rfl) ?_; intro hSm
  repeat
    first | refine lexO_pass rfl ?_ | (refine lexO_take2 ?_ rfl (by kernel_rfl) (by with_reducible assumption) (fun w' hS K Q' hK => ?_) ?_; rotate_left; focus (have hS2 := hS.2; clear hS; go_wp2_with fail; exact hK))
  refine lexO_done ?_
  go_wp2_with fail
  refine bodyPost_ret (v := .tuple #[.slice (some ⟨w.heap.size, 0, none⟩) k k, .nilIface]) (by simp only [results, Tryz.results143]; go_simp) rfl ⟨w.heap.size, rfl, ⟨by omega, ?_, by simpa using h0, by go_simp, by go_simp, ⟨k, by go_simp, by simp, by simp; omega, Nat.zero_le _⟩, fun j => by go_simp, fun j => by go_simp, fun j x hx => ?_, fun j hj => by omega⟩, ?_, ?_, Nat.le_refl _⟩
  · simp
  · obtain ⟨hj, rfl⟩ := replicate_get hx
    rw [Nat.zero_add, World.cell?_drew, World.cell?_drew]
    exact (cell_last (by simp) j).trans (made_cell hj)
  · have h0 := Below.refl B w
    exact (by repeat (first | with_reducible assumption | with_reducible refine Below.drew ?_ | with_reducible refine below_drewN' ?_ _ | with_reducible refine Below.alloc ?_ ?_ _ | with_reducible refine Below.setCell ?_ ?_ _ | with_reducible exact Nat.le_refl _ | omega | focus (simp; done) | focus (simp; omega)))
  · refine Keeps.of_lt ?_
    exact (by repeat (first | with_reducible assumption | with_reducible exact Keeps.refl _ _ | with_reducible refine Keeps.drew ?_ | with_reducible refine Keeps.drewN ?_ _ | with_reducible refine Keeps.alloc ?_ _ | with_reducible refine Keeps.setCell ?_ ?_ _ | omega | focus (simp; done) | focus (simp; omega)))

theorem Holds.made {w : World} {B N s k L2 pp : Nat} {bs : List Int} (lt : B < N) (lN : N < w.heap.size) (h0 : 0 < k) (hL : L2 = s + (k + bs.length)) (c0 : w.cell? ⟨B, 0, none⟩ = some (.slice (some ⟨N, 0, none⟩) L2 L2)) (c1 : w.cell? ⟨B, 1, none⟩ = some (.int .i64 (s : Int)))
    (c2 : w.cell? ⟨B, 2, none⟩ = some (.int .i64 (pp : Int))) (h1 : pp ≤ s + (k + bs.length)) (h2 : pp ≤ 2 * (k + bs.length)) (h3 : s ≤ pp) (fB : ∀ j, w.frozen? ⟨B, j, none⟩ = false) (fN : ∀ j, w.frozen? ⟨N, j, none⟩ = false)
    (hz : ∀ i, i < s + k → w.cell? ⟨N, i, none⟩ = some (.int .u8 0)) (hb : ∀ j x, bs[j]? = some x → w.cell? ⟨N, s + k + j, none⟩ = some (.int .u8 x)) : Holds w B N s (List.replicate k 0 ++ bs) := by
  have hl : (List.replicate k (0 : Int) ++ bs).length = k + bs.length := by simp
  refine ⟨lt, lN, by omega, by rw [hl, ← hL]; exact c0, c1, ⟨pp, c2, by rw [hl]; exact h1, by rw [hl]; exact h2, h3⟩, fB, fN, fun j x hx => ?_, fun j hj => ⟨0, hz j (by omega)⟩⟩
  by_cases hj : j < k
  · rw [List.getElem?_append_left (by simpa using hj)] at hx
    obtain ⟨-, rfl⟩ := replicate_get hx
    exact hz _ (by omega)
  · rw [List.getElem?_append_right (by simp; omega)] at hx
    have := hb _ x hx
    rw [List.length_replicate] at this
    rwa [show s + k + (j - k) = s + j by omega] at this

set_option maxRecDepth 100000 in
set_option maxHeartbeats 4000000 in
theorem prepend_more {w : World} {B D s k tp pp : Nat} {bs : List Int} (h : Holds w B D s bs) (h0 : 0 < k) (hs : s < k) (c2 : w.cell? ⟨B, 2, none⟩ = some (.int .i64 (pp : Int))) (hp1 : pp ≤ s + bs.length) (hp2 : pp ≤ 2 * bs.length) (hp3 : s ≤ pp)
    (ht : tp = if pp < k then k else pp) (hk : k ≤ 1000000) (hb : bs.length ≤ 1000000) : Calls Tryz.prog 143 #[.pointer (some ⟨B, 0, none⟩), .int .i64 (k : Int)] w fun e w' =>
    ∃ D s' c xs, e = .returned (.tuple #[.slice (some ⟨D, s', none⟩) k c, .nilIface]) ∧ k ≤ c ∧ c ≤ 3000000 ∧ xs.length = k ∧ Holds w' B D s' (xs ++ bs) ∧ Below B w w' ∧ Keeps (fun b => b ≠ B) w w' ∧ (w.heap.size ≤ D ∨ ∃ s0, Holds w B D s0 bs) := by
  obtain ⟨lt, lD, hpos, c0, c1, -, fr, frD, hrow, hpre⟩ := h
  have lB : B < w.heap.size := by omega
  have f0 := fr 0
  have f1 := fr 1
  have f2 := fr 2
  have eBD : ¬ B = D := by omega
  have eDB : ¬ D = B := by omega
  have n0 : ¬ ((k : Int) < 0) := by omega
  have n1 : (s : Int) < (k : Int) := by omega
  obtain ⟨L, hL⟩ : ∃ L, L = s + bs.length := ⟨_, rfl⟩
  rw [← hL] at c0
  have eLs : ¬ L = s := by omega
  have lLs : s ≤ L := by omega
  have lLb : L ≤ 2000000 := by omega
  have eN : ¬ (L + tp = s + tp) := by omega
  have hte : k ≤ tp ∧ tp ≤ 2000000 := by rw [ht]; split <;> omega
  have lB1 : B < w.heap.size + 1 := by omega
  have eB1 : ¬ B = w.heap.size := by omega
  have eB2 : ¬ w.heap.size = B := by omega
  have eD1 : ¬ D = w.heap.size := by omega
  have lD1 : D < w.heap.size + 1 := by omega
  have hmk := run_make_row' (P := Tryz.prog) 22 5 (.int .u8 0) 1 Tryz.underlying22 Tryz.infoB rfl .i64 .i64 (L + tp) (by omega) (by omega)
  have eLt : ((L + tp : Nat) : Int) = (L : Int) + (tp : Int) := by omega
  rw [eLt] at hmk
  have HL := Lib.hid hL
  have HP1 := Lib.hid hp1
  have HP2 := Lib.hid hp2
  have HP3 := Lib.hid hp3
  have HROW := Lib.hid hrow
  have HPRE := Lib.hid hpre
  clear hL hp1 hp2 hp3 eLt hrow hpre
  have hss1 : ∀ (w : World) v x v', ((w.setCell ⟨B, 1, none⟩ v).setCell ⟨B, 0, none⟩ x).setCell ⟨B, 1, none⟩ v' = (w.setCell ⟨B, 0, none⟩ x).setCell ⟨B, 1, none⟩ v' := fun w v x v' => setCell3 w B 1 0 v x v'
  have hq1 : ∀ (W : World) (o : Nat) (cs : List Value) (j : Nat), (W.setCells w.heap.size o cs).cell? ⟨B, j, none⟩ = W.cell? ⟨B, j, none⟩ := fun W o cs j => cell_setCells eB1 cs o W
  have hq2 : ∀ (W : World) (o : Nat) (cs : List Value) (a : Addr), (W.setCells w.heap.size o cs).frozen? a = W.frozen? a := fun W o cs a => World.frozen?_setCells _ cs o W a
  have hq3 : ∀ (W : World) (o : Nat) (cs : List Value), (W.setCells w.heap.size o cs).heap.size = W.heap.size := fun W o cs => size_setCells _ cs o W
  by_cases hpk : pp < k
  · rw [if_pos hpk] at ht
    subst ht
    have n2 : (pp : Int) < (tp : Int) := by omega
    go_enter Tryz.func143, Tryz.ntmps143
    go_wp2_with fail
    refine wp_region_same [12] (.q 0 (.q 1 (.q 2 (.q 3 (.q 4 (.q 5 (.q 6 (.q 7 (.q 8 (.q 9 (.q 10 (.q 11 (.l 12 .done .stop))))))))))))) (by kernel_rfl) (by kernel_rfl) (fun _ _ d _ _ h => by cases d <;> exact h) (by simp only [Ord.fill, nthOp]; rfl) ?_; intro hSm
    repeat
      first | refine lexO_pass rfl ?_ | (refine lexO_take2 ?_ rfl (by kernel_rfl) (by with_reducible assumption) (fun w' hS K Q' hK => ?_) ?_; rotate_left; focus (have hS2 := hS.2; clear hS; go_wp2_with fail; exact hK))
    refine lexO_do rfl (fun K hK => ?_) lexO_stop
    refine wp_copy_cells (.tmp 52) (.tmp 61) 22 22 5 rfl Tryz.underlying22 sz1B (b := w.heap.size) (off := s + tp) (cs := bs.map (.int .u8)) rfl rfl ?hcn ?hcs ?hcc ?hcf ?hco (hK _ _ (step_last (by decide) (lexO_done ?_)))
    case hcn =>
      have := HL.out
      show (bs.map (Value.int .u8)).length = Nat.min (L - s) (L + tp - (s + tp))
      rw [List.length_map]
      show bs.length = min (L - s) (L + tp - (s + tp))
      omega
    case hcs =>
      intro j u hu
      rw [List.getElem?_map] at hu
      obtain ⟨x, hx, rfl⟩ := Option.map_eq_some_iff.1 hu
      rw [addr_add, World.cell?_drew, World.cell?_alloc_lt _ _ _ (by simpa using lD), World.cell?_setCell_other _ _ _ _ (by simp)]
      exact HROW.out j x hx
    case hcc =>
      intro j hj
      have := HL.out
      rw [List.length_map] at hj
      rw [World.cell?_drew, cell_last (by simp) _, made_cell (by omega)]
      rfl
    case hcf =>
      intro j hj
      go_simp
    case hco => exact ints_oneCell .u8 bs
    go_wp2_with fail
    refine wp_region_same [] (.q 0 (.q 1 (.q 2 (.q 3 (.q 4 (.q 5 (.q 6 (.q 7 (.q 8 (.q 9 (.q 10 (.q 11 (.q 12 (.q 13 (.q 14 (.q 15 (.q 16 .done))))))))))))))))) (by kernel_rfl) (by kernel_rfl) (fun _ _ d _ _ h => by cases d <;> exact h) (by simp only [Ord.fill, nthOp]; rfl) ?_; intro hSm
    repeat
      first | refine lexO_pass rfl ?_ | (refine lexO_take2 ?_ rfl (by kernel_rfl) (by with_reducible assumption) (fun w' hS K Q' hK => ?_) ?_; rotate_left; focus (have hS2 := hS.2; clear hS; go_wp2_with fail; exact hK))
    refine lexO_done ?_
    go_wp2_with fail
    rw [Nat.add_sub_cancel_left]
    refine bodyPost_ret (v := .tuple #[.slice (some ⟨w.heap.size, s, none⟩) tp (L + tp - s), .nilIface]) (by simp only [results, Tryz.results143]; go_simp) rfl ⟨w.heap.size, s, _, List.replicate tp 0, rfl, by omega, by omega, by simp, Holds.made (L2 := L + tp) (pp := pp + tp) (by omega) ?_ (by omega) (by have := HL.out; omega) ?_ (by go_simp) ?_ (by have := HL.out; have := HP1.out; omega) (by have := HL.out; have := HP2.out; have := HP1.out; omega) (by have := HP3.out; omega) (fun j => by go_simp) (fun j => by go_simp) (fun i hi => ?_) (fun j x hx => ?_), ?_, ?_, .inl (Nat.le_refl _)⟩
    · simp [size_setCells]
    · rw [Nat.add_comm L tp]; go_simp
    · rw [show ((pp + tp : Nat) : Int) = (pp : Int) + (tp : Int) by omega]; go_simp
    · rw [World.cell?_drew, World.cell?_setCell_other _ _ _ _ (by simp), World.cell?_setCell_other _ _ _ _ (by simp), World.cell?_setCells_out _ _ _ _ _ (fun _ _ => .inl (by simp; omega)), World.cell?_drew]
      exact (cell_last (by simp) _).trans (made_cell (by have := HL.out; omega))
    · have hj := (List.getElem?_eq_some_iff.1 hx).1
      rw [World.cell?_drew, World.cell?_setCell_other _ _ _ _ (by simp), World.cell?_setCell_other _ _ _ _ (by simp), show s + tp + j = s + tp + j by omega, World.cell?_setCells_in _ _ _ _ (fun i hi => ?_) j (by simpa using hj)]
      · rw [List.getElem_map, (List.getElem?_eq_some_iff.1 hx).2]
      · rw [List.length_map] at hi
        rw [World.cell?_drew, cell_last (by simp) _, made_cell (by have := HL.out; omega)]
        rfl
    · have h0 := Below.refl B w
      refine Below.drew (Below.setCell (Below.setCell (below_setCells (by omega) _ _ (Below.drew ?_)) (by simp) _) (by simp) _)
      exact (by repeat (first | with_reducible assumption | with_reducible refine Below.drew ?_ | with_reducible refine below_drewN' ?_ _ | with_reducible refine Below.alloc ?_ ?_ _ | with_reducible refine Below.setCell ?_ ?_ _ | with_reducible exact Nat.le_refl _ | omega | focus (simp; done) | focus (simp; omega)))
    · refine Keeps.of_lt (Keeps.drew (Keeps.setCell (Keeps.setCell (keeps_setCells (by simp) _ _ (Keeps.drew ?_)) (by simp) _) (by simp) _))
      exact (by repeat (first | with_reducible assumption | with_reducible exact Keeps.refl _ _ | with_reducible refine Keeps.drew ?_ | with_reducible refine Keeps.drewN ?_ _ | with_reducible refine Keeps.alloc ?_ _ | with_reducible refine Keeps.setCell ?_ ?_ _ | omega | focus (simp; done) | focus (simp; omega)))
  · rw [if_neg hpk] at ht
    subst ht
    have n2 : ¬ ((tp : Int) < (k : Int)) := by omega
    go_enter Tryz.func143, Tryz.ntmps143
    go_wp2_with fail
    refine wp_region_same [12] (.q 0 (.q 1 (.q 2 (.q 3 (.q 4 (.q 5 (.q 6 (.q 7 (.q 8 (.q 9 (.q 10 (.q 11 (.l 12 .done .stop))))))))))))) (by kernel_rfl) (by kernel_rfl) (fun _ _ d _ _ h => by cases d <;> exact h) (by simp only [Ord.fill, nthOp]; rfl) ?_; intro hSm
    repeat
      first | refine lexO_pass rfl ?_ | (refine lexO_take2 ?_ rfl (by kernel_rfl) (by with_reducible assumption) (fun w' hS K Q' hK => ?_) ?_; rotate_left; focus (have hS2 := hS.2; clear hS; go_wp2_with fail; exact hK))
    refine lexO_do rfl (fun K hK => ?_) lexO_stop
    refine wp_copy_cells (.tmp 52) (.tmp 61) 22 22 5 rfl Tryz.underlying22 sz1B (b := w.heap.size) (off := s + tp) (cs := bs.map (.int .u8)) rfl rfl ?hcn ?hcs ?hcc ?hcf ?hco (hK _ _ (step_last (by decide) (lexO_done ?_)))
    case hcn =>
      have := HL.out
      show (bs.map (Value.int .u8)).length = Nat.min (L - s) (L + tp - (s + tp))
      rw [List.length_map]
      show bs.length = min (L - s) (L + tp - (s + tp))
      omega
    case hcs =>
      intro j u hu
      rw [List.getElem?_map] at hu
      obtain ⟨x, hx, rfl⟩ := Option.map_eq_some_iff.1 hu
      rw [addr_add, World.cell?_drew, World.cell?_alloc_lt _ _ _ (by simpa using lD), World.cell?_setCell_other _ _ _ _ (by simp)]
      exact HROW.out j x hx
    case hcc =>
      intro j hj
      have := HL.out
      rw [List.length_map] at hj
      rw [World.cell?_drew, cell_last (by simp) _, made_cell (by omega)]
      rfl
    case hcf =>
      intro j hj
      go_simp
    case hco => exact ints_oneCell .u8 bs
    go_wp2_with fail
    refine wp_region_same [] (.q 0 (.q 1 (.q 2 (.q 3 (.q 4 (.q 5 (.q 6 (.q 7 (.q 8 (.q 9 (.q 10 (.q 11 (.q 12 (.q 13 (.q 14 (.q 15 (.q 16 .done))))))))))))))))) (by kernel_rfl) (by kernel_rfl) (fun _ _ d _ _ h => by cases d <;> exact h) (by simp only [Ord.fill, nthOp]; rfl) ?_; intro hSm
    repeat
      first | refine lexO_pass rfl ?_ | (refine lexO_take2 ?_ rfl (by kernel_rfl) (by with_reducible assumption) (fun w' hS K Q' hK => ?_) ?_; rotate_left; focus (have hS2 := hS.2; clear hS; go_wp2_with fail; exact hK))
    refine lexO_done ?_
    go_wp2_with fail
    rw [show s + tp - (s + tp - k) = k by omega]
    refine bodyPost_ret (v := .tuple #[.slice (some ⟨w.heap.size, (s + tp - k), none⟩) k (L + tp - (s + tp - k)), .nilIface]) (by simp only [results, Tryz.results143]; go_simp) rfl ⟨w.heap.size, (s + tp - k), _, List.replicate k 0, rfl, by omega, by omega, by simp, Holds.made (L2 := L + tp) (pp := tp + tp) (by omega) ?_ (by omega) (by have := HL.out; omega) ?_ (by rw [show ((s + tp - k : Nat) : Int) = (s : Int) + (tp : Int) - (k : Int) by omega]; go_simp) ?_ (by have := HL.out; have := HP1.out; omega) (by have := HL.out; have := HP2.out; have := HP1.out; omega) (by have := HP3.out; omega) (fun j => by go_simp) (fun j => by go_simp) (fun i hi => ?_) (fun j x hx => ?_), ?_, ?_, .inl (Nat.le_refl _)⟩
    · simp [size_setCells]
    · rw [Nat.add_comm L tp]; go_simp
    · rw [show ((tp + tp : Nat) : Int) = (tp : Int) + (tp : Int) by omega]; go_simp
    · rw [World.cell?_drew, World.cell?_setCell_other _ _ _ _ (by simp), World.cell?_setCell_other _ _ _ _ (by simp), World.cell?_setCells_out _ _ _ _ _ (fun _ _ => .inl (by simp; omega)), World.cell?_drew]
      exact (cell_last (by simp) _).trans (made_cell (by have := HL.out; omega))
    · have hj := (List.getElem?_eq_some_iff.1 hx).1
      rw [World.cell?_drew, World.cell?_setCell_other _ _ _ _ (by simp), World.cell?_setCell_other _ _ _ _ (by simp), show (s + tp - k) + k + j = s + tp + j by omega, World.cell?_setCells_in _ _ _ _ (fun i hi => ?_) j (by simpa using hj)]
      · rw [List.getElem_map, (List.getElem?_eq_some_iff.1 hx).2]
      · rw [List.length_map] at hi
        rw [World.cell?_drew, cell_last (by simp) _, made_cell (by have := HL.out; omega)]
        rfl
    · have h0 := Below.refl B w
      refine Below.drew (Below.setCell (Below.setCell (below_setCells (by omega) _ _ (Below.drew ?_)) (by simp) _) (by simp) _)
      exact (by repeat (first | with_reducible assumption | with_reducible refine Below.drew ?_ | with_reducible refine below_drewN' ?_ _ | with_reducible refine Below.alloc ?_ ?_ _ | with_reducible refine Below.setCell ?_ ?_ _ | with_reducible exact Nat.le_refl _ | omega | focus (simp; done) | focus (simp; omega)))
    · refine Keeps.of_lt (Keeps.drew (Keeps.setCell (Keeps.setCell (keeps_setCells (by simp) _ _ (Keeps.drew ?_)) (by simp) _) (by simp) _))
      exact (by repeat (first | with_reducible assumption | with_reducible exact Keeps.refl _ _ | with_reducible refine Keeps.drew ?_ | with_reducible refine Keeps.drewN ?_ _ | with_reducible refine Keeps.alloc ?_ _ | with_reducible refine Keeps.setCell ?_ ?_ _ | omega | focus (simp; done) | focus (simp; omega)))

set_option maxRecDepth 100000 in
set_option maxHeartbeats 4000000 in
theorem prepend_room {w : World} {B D s k : Nat} {bs : List Int} (h : Holds w B D s bs) (h0 : 0 < k) (hs : k ≤ s) (hb : bs.length ≤ 1000000) : Calls Tryz.prog 143 #[.pointer (some ⟨B, 0, none⟩), .int .i64 (k : Int)] w fun e w' =>
    ∃ D s' c xs, e = .returned (.tuple #[.slice (some ⟨D, s', none⟩) k c, .nilIface]) ∧ k ≤ c ∧ c ≤ 3000000 ∧ xs.length = k ∧ Holds w' B D s' (xs ++ bs) ∧ Below B w w' ∧ Keeps (fun b => b ≠ B) w w' ∧ (w.heap.size ≤ D ∨ ∃ s0, Holds w B D s0 bs) := by
  have H := Lib.hid h
  obtain ⟨lt, lD, hpos, c0, c1, ⟨pp, c2, hp1, hp2, hp3⟩, fr, -, -, hpre⟩ := h
  have HPRE := Lib.hid hpre
  have lB : B < w.heap.size := by omega
  have f1 := fr 1
  have n0 : ¬ ((k : Int) < 0) := by omega
  have n1 : ¬ ((s : Int) < (k : Int)) := by omega
  obtain ⟨L, hL⟩ : ∃ L, L = s + bs.length := ⟨_, rfl⟩
  rw [← hL] at c0
  have lLb : L ≤ 3000000 := by omega
  have lsL : s ≤ L := by omega
  have lsk : s - k ≤ s := by omega
  have ek : ¬ L = s - k := by omega
  have HL := Lib.hid hL
  have HP := Lib.hid (show (pp ≤ s + bs.length ∧ pp ≤ 2 * bs.length) ∧ s ≤ pp from ⟨⟨hp1, hp2⟩, hp3⟩)
  clear hL hp1 hp2 hp3 hpre
  go_enter Tryz.func143, Tryz.ntmps143
  go_wp2_with fail
  refine wp_region_same [] (.q 0 (.q 1 (.q 2 (.q 3 (.q 4 (.q 5 (.q 6 (.q 7 (.q 8 (.q 9 (.q 10 (.q 11 (.q 12 (.q 13 (.q 14 (.q 15 (.q 16 .done))))))))))))))))) (by kernel_rfl) (by kernel_rfl) (fun _ _ d _ _ h => by cases d <;> exact h) (by simp only [Ord.fill, nthOp]; rfl) ?_; intro hSm
  repeat
    first | refine lexO_pass rfl ?_ | (refine lexO_take2 ?_ rfl (by kernel_rfl) (by with_reducible assumption) (fun w' hS K Q' hK => ?_) ?_; rotate_left; focus (have hS2 := hS.2; clear hS; go_wp2_with fail; exact hK))
  refine lexO_done ?_
  go_wp2_with fail
  have e1 : ((s - k : Nat) : Int) = (s : Int) - (k : Int) := by omega
  obtain ⟨xs, hx1, hx2⟩ : ∃ xs : List Int, xs.length = k ∧ ∀ j x, xs[j]? = some x → w.cell? ⟨D, s - k + j, none⟩ = some (.int .u8 x) := by
    have hall : ∀ j, j < k → ∃ x, w.cell? ⟨D, s - k + j, none⟩ = some (.int .u8 x) := fun j hj => HPRE.out _ (by omega)
    clear e1
    induction k with
    | zero => exact absurd h0 (by omega)
    | succ k _ => 
      refine ⟨List.ofFn fun j : Fin (k + 1) => Classical.choose (hall j.1 j.2), by simp, fun j x hx => ?_⟩
      rw [List.getElem?_ofFn] at hx
      split at hx
      · rename_i hj
        obtain rfl := Option.some.inj hx
        exact Classical.choose_spec (hall j hj)
      · cases hx
  have hh := H.out
  have hp := HP.out
  have hL := HL.out
  have hlen : (xs ++ bs).length = k + bs.length := by simp [hx1]
  refine bodyPost_ret (v := .tuple #[.slice (some ⟨D, s - k, none⟩) k (L - (s - k)), .nilIface]) (by simp only [results, Tryz.results143]; go_simp; omega) rfl ⟨D, s - k, _, xs, rfl, by omega, by omega, hx1, ⟨lt, by simpa using lD, by omega, ?_, ?_, ⟨pp, ?_, by omega, by omega, by omega⟩, fun j => ?_, fun j => ?_, fun j x hx => ?_, fun j hj => ?_⟩, ?_, ?_, .inr ⟨s, hh⟩⟩
  · rw [hlen, show s - k + (k + bs.length) = L by omega]; go_simp
  · rw [e1]; go_simp
  · go_simp
  · rw [World.frozen?_drew, World.frozen?_setCell]; exact hh.frB j
  · rw [World.frozen?_drew, World.frozen?_setCell]; exact hh.frD j
  · rw [World.cell?_drew, World.cell?_setCell_other _ _ _ _ (by simp)]
    by_cases hj : j < k
    · rw [List.getElem?_append_left (by omega)] at hx
      exact hx2 j x hx
    · rw [List.getElem?_append_right (by omega)] at hx
      have := hh.row _ x hx
      rwa [show s - k + j = s + (j - xs.length) by omega]
  · obtain ⟨x, hx⟩ := hh.pre j (by omega)
    exact ⟨x, by rw [World.cell?_drew, World.cell?_setCell_other _ _ _ _ (by simp)]; exact hx⟩
  · have h0 := Below.refl B w
    exact (by repeat (first | with_reducible assumption | with_reducible refine Below.drew ?_ | with_reducible refine below_drewN' ?_ _ | with_reducible refine Below.alloc ?_ ?_ _ | with_reducible refine Below.setCell ?_ ?_ _ | with_reducible exact Nat.le_refl _ | omega | focus (simp; done) | focus (simp; omega)))
  · refine Keeps.of_lt ?_
    exact (by repeat (first | with_reducible assumption | with_reducible exact Keeps.refl _ _ | with_reducible refine Keeps.drew ?_ | with_reducible refine Keeps.drewN ?_ _ | with_reducible refine Keeps.alloc ?_ _ | with_reducible refine Keeps.setCell ?_ ?_ _ | omega | focus (simp; done) | focus (simp; omega)))

/-- PrependBytes: what was held lies behind as many new bytes. -/
theorem prepend_c {w : World} {B k : Nat} {bs : List Int} (h : Buf w B bs) (h0 : 0 < k) (hk : k ≤ 1000000) (hb : bs.length ≤ 1000000) : Calls Tryz.prog 143 #[.pointer (some ⟨B, 0, none⟩), .int .i64 (k : Int)] w fun e w' =>
    ∃ D s' c xs, e = .returned (.tuple #[.slice (some ⟨D, s', none⟩) k c, .nilIface]) ∧ k ≤ c ∧ c ≤ 3000000 ∧ xs.length = k ∧ Holds w' B D s' (xs ++ bs) ∧ Below B w w' ∧ Keeps (fun b => b ≠ B) w w' ∧ (w.heap.size ≤ D ∨ ∃ s0, Holds w B D s0 bs) := by
  rcases h with ⟨rfl, h⟩ | ⟨D, s, h⟩
  · refine (prepend_bare h h0 hk).mono ?_
    rintro e w' ⟨D, rfl, hh, hb, hk', hD⟩
    exact ⟨D, 0, k, List.replicate k 0, rfl, Nat.le_refl _, by omega, by simp, by simpa using hh, hb, hk', .inl hD⟩
  · by_cases hs : s < k
    · obtain ⟨pp, c2, h1, h2, h3⟩ := h.prep
      exact prepend_more h h0 hs c2 h1 h2 h3 rfl hk hb
    · exact prepend_room h h0 (by omega) hb

set_option maxHeartbeats 1000000 in
/-- Bytes: what is held. -/
theorem bytes_of {w : World} {B D s : Nat} {bs : List Int} (h : Holds w B D s bs) : Calls Tryz.prog 140 #[.pointer (some ⟨B, 0, none⟩)] w fun e w' =>
    ∃ q, e = .returned (.slice (some ⟨D, s, none⟩) bs.length bs.length) ∧ w.drewN q = w' := by
  obtain ⟨lt, lD, hpos, c0, c1, -, -, -, -, -⟩ := h
  have lB : B < w.heap.size := by omega
  obtain ⟨L, hL⟩ : ∃ L, L = s + bs.length := ⟨_, rfl⟩
  rw [← hL] at c0
  have e1 : ¬ L = s := by omega
  have e2 : s ≤ L := by omega
  have HL := Lib.hid hL
  clear hL
  go_enter Tryz.func140, Tryz.ntmps140
  go_wp2_with fail
  go_quiet (fail)
  go_wp2_with fail
  have e3 : L - s = bs.length := by have := HL.out; omega
  rw [e3]
  refine bodyPost_ret (v := .slice (some ⟨D, s, none⟩) bs.length bs.length) (by simp only [results, Tryz.results140]; go_simp) rfl ⟨_, rfl, rfl⟩

/-- The block of a buffer is as old as its bytes. -/
theorem Buf.old {w wA : World} {B D : Nat} {bs : List Int} (h : Buf w B bs) (k : Below w.heap.size w wA) (hh : wA.heap.size ≤ D ∨ ∃ s0, Holds wA B D s0 bs) : D < w.heap.size ∨ wA.heap.size ≤ D := by
  rcases hh with hh | ⟨s0, hh⟩
  · exact .inr hh
  · refine .inl ?_
    rcases h with ⟨_, h⟩ | ⟨D1, s1, h⟩
    · have := (k.cell (p := ⟨B, 0, none⟩) h.lt).trans h.data
      rw [hh.data] at this
      cases this
    · have := (k.cell (p := ⟨B, 0, none⟩) (Nat.lt_trans h.lt h.ltD)).trans h.data
      rw [hh.data] at this
      have e : D = D1 := by injection this with e; injection e with e; injection e with e; injection e
      rw [e]; exact h.ltD
end Go.Proofs.YtmpifdanfnebpaaGreat
