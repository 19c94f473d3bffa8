/-
  The records of a report of MLDv2 as elements of a list.
-/
import Derived.Test.YtmpifdanfnebpaaGreatRecs
import Derived.Test.YtmpifdanfnebpaaGreatList
namespace Go.Proofs.YtmpifdanfnebpaaGreat
open Go Go.RowKit

theorem Rows.sd {w : World} {base : Nat} {ok ok' : Nat → Prop} {e : TypeId} {v : Value} {ds : List (List Int)} (h : Rows eB w base ok e v ds) (hb : ∀ b, b < w.heap.size → base ≤ b → ok' b) (hi : ∀ b, b < w.heap.size → ok b → ok' b) : SD w ok' v ds := by
  obtain ⟨css, h1, h2, h3⟩ := h
  have hp : ∃ vs : List Value, vs.length = ds.length ∧ vs = css.flatten ∧ ∀ (j : Nat) u d, vs[j]? = some u → ds[j]? = some d → SB w ok' u d := by
    clear h2
    induction css generalizing ds with
    | nil =>
      simp at h1
      exact ⟨[], h1, rfl, fun j u d h => by simp at h⟩
    | cons c css ih =>
      match ds, h1, h3 with
      | d :: ds, h1, h3 =>
        obtain ⟨vs, g1, g2, g3⟩ := ih (ds := ds) (by simpa using h1) (fun j cs x hc hx => h3 (j + 1) cs x (by simpa using hc) (by simpa using hx))
        obtain ⟨u, rfl, hu⟩ := h3 0 c d (by simp) (by simp)
        refine ⟨u :: vs, by simp [g1], by simp [g2], fun j x q hx hq => ?_⟩
        cases j with
        | zero =>
          simp at hx hq
          subst hx hq
          exact hu.imp (fun b hb h => hi b hb h.1)
        | succ j => exact g3 j x q (by simpa using hx) (by simpa using hq)
  obtain ⟨vs, g1, g2, g3⟩ := hp
  refine ⟨vs, g1, ?_, g3⟩
  rw [g2]
  have hS := IsSl.owned h2
  exact IsSl.imp hS (fun b hb2 h => hb b hb2 h.1)

/-- Sixteen at a time. -/
theorem flat16 (l : List Int) : ∀ N : Nat, 16 * N ≤ l.length → ((List.range N).map fun i => (l.drop (16 * i)).take 16).flatten = l.take (16 * N) := by
  intro N
  induction N with
  | zero => simp
  | succ N ih =>
    intro h
    rw [List.range_succ, List.map_append, List.flatten_append, ih (by omega), show 16 * (N + 1) = 16 * N + 16 by omega, List.take_add]
    simp

/-- Records of a report: type, length of the other data, how many sources, address, sources, other data. -/
def eM : Elem (List Int × List Int) where
  size := 6
  R w ok cs p := ∃ (t a n : Int) (mv iv av : Value) (ma : List Int) (ips : List (List Int)) (ab : List Int), cs = [.int .u8 t, .int .u8 a, .int .u16 n, mv, iv, av] ∧ p = ([t, a, n, (ips.length : Int)], ma ++ ips.flatten ++ ab) ∧
    SB w ok mv ma ∧ SD w ok iv ips ∧ SB w ok av ab ∧ (0 ≤ t ∧ t ≤ 255) ∧ (0 ≤ a ∧ a ≤ 255) ∧ (0 ≤ n ∧ n < 65536) ∧ ma.length ≤ 1000 ∧ ips.length ≤ 65536 ∧ (∀ d ∈ ips, d.length ≤ 1000) ∧ ab.length ≤ 1000000
  len := by rintro w ok cs x ⟨t, a, n, mv, iv, av, ma, ips, ab, rfl, _⟩; rfl
  one := by
    rintro w ok cs x ⟨t, a, n, mv, iv, av, ma, ips, ab, rfl, _, ⟨_, _, rfl, _⟩, ⟨_, _, ⟨_, _, rfl, _⟩, _⟩, ⟨_, _, rfl, _⟩, _⟩ v hv
    simp at hv
    rcases hv with rfl | rfl | rfl | rfl | rfl | rfl <;> rfl
  keeps := by rintro w w' ok cs x k ⟨t, a, n, mv, iv, av, ma, ips, ab, rfl, h1, h2, h3, h4, h5⟩; exact ⟨t, a, n, mv, iv, av, ma, ips, ab, rfl, h1, h2.keeps k, h3.keeps k, h4.keeps k, h5⟩
  imp := by rintro w ok ok' cs x hi ⟨t, a, n, mv, iv, av, ma, ips, ab, rfl, h1, h2, h3, h4, h5⟩; exact ⟨t, a, n, mv, iv, av, ma, ips, ab, rfl, h1, h2.imp hi, h3.imp hi, h4.imp hi, h5⟩
theorem infoRec : (Tryz.prog.info? 106).map (fun i => (i.zero, i.size, i.bytes)) = some (some (.agg #[.int .u8 0, .int .u8 0, .int .u16 0, .slice none 0 0, .slice none 0 0, .slice none 0 0]), 6, 80) := by kernel_rfl

/-- The bytes of a record. -/
theorem rec_bytes {rest : List Int} {N S : Nat} {y : Int} (hS : S = 16 + (16 * N + 4 * y.toNat)) (h : S ≤ rest.length) :
    (rest.take 16) ++ ((List.range N).map fun i => (rest.drop (16 + 16 * i)).take 16).flatten ++ (rest.drop (16 + 16 * N)).take (4 * y.toNat) = rest.take S := by
  have e : ((List.range N).map fun i => (rest.drop (16 + 16 * i)).take 16) = ((List.range N).map fun i => ((rest.drop 16).drop (16 * i)).take 16) := by
    simp only [List.drop_drop]
  rw [e, flat16 (rest.drop 16) N (by simp; omega), hS, show 16 + (16 * N + 4 * y.toNat) = (16 + 16 * N) + 4 * y.toNat by omega, List.take_add, List.take_add]
end Go.Proofs.YtmpifdanfnebpaaGreat
