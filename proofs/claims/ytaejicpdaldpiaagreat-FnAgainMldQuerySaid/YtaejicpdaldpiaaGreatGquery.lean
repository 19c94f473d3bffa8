/-
  laws.again of mldquery2.
-/
import Derived.Test.YtaejicpdaldpiaaGreatAgain
import Derived.Test.YtaejicpdaldpiaaGreatAlive
import Derived.Test.YtaejicpdaldpiaaGreatSquery
import Derived.Test.YtaejicpdaldpiaaGreatPquery
import Derived.Test.YtaejicpdaldpiaaGreatMquery
namespace Go.Proofs.YtaejicpdaldpiaaGreat
open Go Go.RowKit

/-- Whether the bytes are plain. -/
def pQuery : List Int → Bool
  | x0 :: x1 :: x2 :: x3 :: x4 :: x5 :: x6 :: x7 :: x8 :: x9 :: x10 :: x11 :: x12 :: x13 :: x14 :: x15 :: x16 :: x17 :: x18 :: x19 :: x20 :: x21 :: x22 :: x23 :: rest => (x2 == 0 && x3 == 0) && (decide (x20 < 16) && ((((x0 :: x1 :: x2 :: x3 :: x4 :: x5 :: x6 :: x7 :: x8 :: x9 :: x10 :: x11 :: x12 :: x13 :: x14 :: x15 :: x16 :: x17 :: x18 :: x19 :: x20 :: x21 :: x22 :: x23 :: rest).length : Nat) : Int) == 24 + 16 * (x22 * 256 + x23)))
  | _ => false

theorem qb_is' : ∀ k : Fin 16, qb (flag8 ((k : Nat) : Int)) (((k : Nat) : Int) % 8) = ((k : Nat) : Int) := by decide +kernel
theorem qb_is {x : Int} (h : 0 ≤ x ∧ x ≤ 255) (hp : x < 16) : qb (flag8 x) (x % 8) = x := by
  obtain ⟨k, rfl⟩ := Int.eq_ofNat_of_zero_le h.1
  exact qb_is' ⟨k, by omega⟩
theorem chunks {rest : List Int} : ∀ m, ((List.range m).map fun k => (rest.drop (16 * k)).take 16).flatten = rest.take (16 * m)
  | 0 => rfl
  | m + 1 => by
    rw [List.range_succ, List.map_append, List.flatten_append, chunks m, show 16 * (m + 1) = 16 * m + 16 by omega, List.take_add]
    simp
theorem chunk_len {rest : List Int} {N : Nat} (h : rest.length = 16 * N) : ∀ d ∈ (List.range N).map fun k => (rest.drop (16 * k)).take 16, d.length = 16 := by
  intro d hd
  obtain ⟨k, hk, rfl⟩ := List.mem_map.1 hd
  have := List.mem_range.1 hk
  rw [List.length_take, List.length_drop]
  omega

set_option maxHeartbeats 4000000 in
theorem write_query {bs : List Int} (hb : ∀ z ∈ bs, 0 ≤ z ∧ z ≤ 255) (hl : bs.length ≤ 400) {l : Lay} (hd : dQuery bs = some l) (h50 : l.parts.length ≤ 50) (hp : pQuery bs = true) : WriteOf (.string ⟨#[109, 108, 100, 113, 117, 101, 114, 121, 50]⟩) l bs := by
  match bs, hb, hl, hd, hp with
  | x0 :: x1 :: x2 :: x3 :: x4 :: x5 :: x6 :: x7 :: x8 :: x9 :: x10 :: x11 :: x12 :: x13 :: x14 :: x15 :: x16 :: x17 :: x18 :: x19 :: x20 :: x21 :: x22 :: x23 :: rest, hb, hl, hd, hp =>
    have h0 := hb x0 (by simp)
    have h1 := hb x1 (by simp)
    have h20 := hb x20 (by simp)
    have h21 := hb x21 (by simp)
    have h22 := hb x22 (by simp)
    have h23 := hb x23 (by simp)
    obtain ⟨N, hN⟩ : ∃ N : Nat, x22 * 256 + x23 = (N : Int) := ⟨(x22 * 256 + x23).toNat, by omega⟩
    simp only [pQuery, Bool.and_eq_true, decide_eq_true_eq, beq_iff_eq] at hp
    obtain ⟨⟨rfl, rfl⟩, hq, he⟩ := hp
    rw [dQuery_yes (N := N) (by rw [he]; exact Int.le_refl _) hN] at hd
    obtain rfl := Option.some.inj hd
    have hlen : rest.length = 16 * N := by simp only [List.length_cons] at he; omega
    have hN50 : N ≤ 50 := by simpa using h50
    have hdrop : ∀ k, (x0 :: x1 :: 0 :: 0 :: x4 :: x5 :: x6 :: x7 :: x8 :: x9 :: x10 :: x11 :: x12 :: x13 :: x14 :: x15 :: x16 :: x17 :: x18 :: x19 :: x20 :: x21 :: x22 :: x23 :: rest).drop (24 + 16 * k) = rest.drop (16 * k) := fun k => by rw [Nat.add_comm]; rfl
    have hparts : (List.range N).map (fun k => (([] : List Int), ((x0 :: x1 :: 0 :: 0 :: x4 :: x5 :: x6 :: x7 :: x8 :: x9 :: x10 :: x11 :: x12 :: x13 :: x14 :: x15 :: x16 :: x17 :: x18 :: x19 :: x20 :: x21 :: x22 :: x23 :: rest).drop (24 + 16 * k)).take 16)) = ((List.range N).map fun k => (rest.drop (16 * k)).take 16).map (fun d => (([] : List Int), d)) := by
      rw [List.map_map]
      refine List.map_congr_left fun k _ => ?_
      rw [hdrop]
      rfl
    have hfl : ((List.range N).map fun k => (rest.drop (16 * k)).take 16).flatten = rest := by rw [chunks, ← hlen, List.take_length]
    rw [hparts, ← flag8_b h20]
    have := write_c (made_query (x0 := x0 * 256 + x1) (t2 := flag8 x20) (x3 := x20 % 8) (x4 := x21) (x5 := (N : Int)) (d1 := [x4, x5, x6, x7, x8, x9, x10, x11, x12, x13, x14, x15, x16, x17, x18, x19]) (ips := (List.range N).map fun k => (rest.drop (16 * k)).take 16) (pay := []) (by omega) (by simp) (by omega) h21 (by omega) (by simpa using hN50) (fun d hd => by rw [chunk_len hlen d hd]; omega))
      (by rw [← hN]; exact ser_query (d := [x4, x5, x6, x7, x8, x9, x10, x11, x12, x13, x14, x15, x16, x17, x18, x19]) h0 h1 h22 h23 rfl (chunk_len hlen) (by simpa using hN50)) m_ser_query c_ser_query (by simp) (by simp) (fun p hp => by obtain ⟨d, hd, rfl⟩ := List.mem_map.1 hp; rw [chunk_len hlen d hd]; omega) (by simpa using hN50) (by simp only [List.length_cons, List.length_append, hfl]; simp only [List.length_cons] at hl; simp; omega)
    rw [hfl, qb_is h20 hq] at this
    exact this

theorem again_query {bs : List Int} (hb : ∀ z ∈ bs, 0 ≤ z ∧ z ≤ 255) {v : Value} {w : World} (h : SB w (fun _ => True) v bs) :
    Calls Tryz.prog 16 #[.string ⟨#[109, 108, 100, 113, 117, 101, 114, 121, 50]⟩, v] w fun e w' => e = .returned (.bool true) ∧ Below w.heap.size w w' := by
  refine again_c (p := pQuery bs) (by kernel_rfl) (specOf_query (fun h => by rw [dQuery_short h]) (fun h => helpOf_query hb h)) (fun h4 l hd => ?_) (fun h4 l hd h5 hp => write_query hb h4 (Option.some.inj hd) h5 hp) alive_c h
  replace hd := Option.some.inj hd
  by_cases h24 : bs.length < 24
  · rw [dQuery_short h24] at hd; cases hd
  · obtain ⟨x0, x1, x2, x3, x4, x5, x6, x7, x8, x9, x10, x11, x12, x13, x14, x15, x16, x17, x18, x19, x20, x21, x22, x23, rest, rfl⟩ := long24 (bs := bs) (by omega)
    exact plain_query (hb x20 (by simp)) (hb x22 (by simp)) (hb x23 (by simp)) (by simp only [List.length_cons] at h4; omega)
end Go.Proofs.YtaejicpdaldpiaaGreat
