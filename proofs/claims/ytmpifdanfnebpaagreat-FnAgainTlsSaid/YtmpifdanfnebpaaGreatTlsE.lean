/-
  The records of TLS in memory, and their decoders.
-/
import Derived.Test.YtmpifdanfnebpaaGreatMany
import Derived.Test.YtmpifdanfnebpaaGreatRead
import Derived.Test.YtmpifdanfnebpaaGreatLaw
namespace Go.Proofs.YtmpifdanfnebpaaGreat
open Go Go.RowKit

/-- A change of ciphers. -/
def eCcs : Elem (List Int × List Int) where
  size := 4
  R _ _ cs p := ∃ v n m, cs = [.int .u8 20, .int .u16 v, .int .u16 n, .int .u8 m] ∧ p = ([0, 20, v, n, m], []) ∧ (0 ≤ v ∧ v < 65536) ∧ (0 ≤ n ∧ n < 65536) ∧ (0 ≤ m ∧ m < 256)
  len := by rintro w ok cs x ⟨v, n, m, rfl, _⟩; rfl
  one := by
    rintro w ok cs x ⟨v, n, m, rfl, _⟩ u hu
    simp at hu
    rcases hu with rfl | rfl | rfl | rfl <;> rfl
  keeps := by rintro w w' ok cs x k h; exact h
  imp := by rintro w ok ok' cs x hi h; exact h
/-- A handshake. -/
def eHs : Elem (List Int × List Int) where
  size := 3
  R _ _ cs p := ∃ v n, cs = [.int .u8 22, .int .u16 v, .int .u16 n] ∧ p = ([1, 22, v, n], []) ∧ (0 ≤ v ∧ v < 65536) ∧ (0 ≤ n ∧ n < 65536)
  len := by rintro w ok cs x ⟨v, n, rfl, _⟩; rfl
  one := by
    rintro w ok cs x ⟨v, n, rfl, _⟩ u hu
    simp at hu
    rcases hu with rfl | rfl | rfl <;> rfl
  keeps := by rintro w w' ok cs x k h; exact h
  imp := by rintro w ok ok' cs x hi h; exact h
/-- Data. -/
def eApp : Elem (List Int × List Int) where
  size := 4
  R w ok cs p := ∃ v n u d, cs = [.int .u8 23, .int .u16 v, .int .u16 n, u] ∧ p = ([2, 23, v, n], d) ∧ SB w ok u d ∧ (0 ≤ v ∧ v < 65536) ∧ (0 ≤ n ∧ n < 65536) ∧ d.length ≤ 65536
  len := by rintro w ok cs x ⟨v, n, u, d, rfl, _⟩; rfl
  one := by
    rintro w ok cs x ⟨v, n, u, d, rfl, _, ⟨p, c, rfl, _⟩, _⟩ z hz
    simp at hz
    rcases hz with rfl | rfl | rfl | rfl <;> rfl
  keeps := by rintro w w' ok cs x k ⟨v, n, u, d, h1, h2, h3, h4⟩; exact ⟨v, n, u, d, h1, h2, h3.keeps k, h4⟩
  imp := by rintro w ok ok' cs x hi ⟨v, n, u, d, h1, h2, h3, h4⟩; exact ⟨v, n, u, d, h1, h2, h3.imp hi, h4⟩
/-- An alert. -/
def eAl : Elem (List Int × List Int) where
  size := 6
  R w ok cs p := ∃ v n a b u, cs = [.int .u8 21, .int .u16 v, .int .u16 n, .int .u8 a, .int .u8 b, u] ∧ p = ([3, 21, v, n, a, b], []) ∧ SB w ok u [] ∧ (0 ≤ v ∧ v < 65536) ∧ (0 ≤ n ∧ n < 65536) ∧ (0 ≤ a ∧ a < 256) ∧ (0 ≤ b ∧ b < 256)
  len := by rintro w ok cs x ⟨v, n, a, b, u, rfl, _⟩; rfl
  one := by
    rintro w ok cs x ⟨v, n, a, b, u, rfl, _, ⟨p, c, rfl, _⟩, _⟩ z hz
    simp at hz
    rcases hz with rfl | rfl | rfl | rfl | rfl | rfl <;> rfl
  keeps := by rintro w w' ok cs x k ⟨v, n, a, b, u, h1, h2, h3, h4⟩; exact ⟨v, n, a, b, u, h1, h2, h3.keeps k, h4⟩
  imp := by rintro w ok ok' cs x hi ⟨v, n, a, b, u, h1, h2, h3, h4⟩; exact ⟨v, n, a, b, u, h1, h2, h3.imp hi, h4⟩
def eT : Nat → Elem (List Int × List Int)
  | 0 => eCcs
  | 1 => eHs
  | 2 => eApp
  | _ => eAl
def tT : Nat → TypeId
  | 0 => 157
  | 1 => 159
  | 2 => 161
  | _ => 165

theorem infoCcs : (Tryz.prog.info? 157).map (fun i => (i.zero, i.size, i.bytes)) = some (some (.agg #[.int .u8 0, .int .u16 0, .int .u16 0, .int .u8 0]), 4, 8) := by kernel_rfl
theorem infoHs : (Tryz.prog.info? 159).map (fun i => (i.zero, i.size, i.bytes)) = some (some (.agg #[.int .u8 0, .int .u16 0, .int .u16 0]), 3, 6) := by kernel_rfl
theorem infoApp : (Tryz.prog.info? 161).map (fun i => (i.zero, i.size, i.bytes)) = some (some (.agg #[.int .u8 0, .int .u16 0, .int .u16 0, .slice none 0 0]), 4, 32) := by kernel_rfl
theorem infoAl : (Tryz.prog.info? 165).map (fun i => (i.zero, i.size, i.bytes)) = some (some (.agg #[.int .u8 0, .int .u16 0, .int .u16 0, .int .u8 0, .int .u8 0, .slice none 0 0]), 6, 32) := by kernel_rfl

theorem rec_ccs {Z g o c k : Nat} {v : Int} {w : World} (hZ : w.heap[Z]? = some (.cells #[.int .u8 0, .int .u16 0, .int .u16 0, .int .u8 0] 157 (0, 0))) (hg : w.cell? ⟨g, o, none⟩ = some (.int .u8 1)) (hgZ : ¬ g = Z) :
    Calls Tryz.prog 66 #[.pointer (some ⟨Z, 0, none⟩), .agg #[.int .u8 20, .int .u16 v, .int .u16 1], .slice (some ⟨g, o, none⟩) 1 c, .iface 196 (.pointer (some ⟨k, 0, none⟩))] w fun e w' =>
      e = .returned .nilIface ∧ (∀ i x, [Value.int .u8 20, .int .u16 v, .int .u16 1, .int .u8 1][i]? = some x → w'.cell? ⟨Z, i, none⟩ = some x) ∧ Below Z w w' := by
  have d0 : w.cell? ⟨Z, 0, none⟩ = some (.int .u8 0) := by simp [World.cell?, hZ]
  have d1 : w.cell? ⟨Z, 1, none⟩ = some (.int .u16 0) := by simp [World.cell?, hZ]
  have d2 : w.cell? ⟨Z, 2, none⟩ = some (.int .u16 0) := by simp [World.cell?, hZ]
  have d3 : w.cell? ⟨Z, 3, none⟩ = some (.int .u8 0) := by simp [World.cell?, hZ]
  have f0 : w.frozen? ⟨Z, 0, none⟩ = false := by simp [World.frozen?, hZ]
  have f1 : w.frozen? ⟨Z, 1, none⟩ = false := by simp [World.frozen?, hZ]
  have f2 : w.frozen? ⟨Z, 2, none⟩ = false := by simp [World.frozen?, hZ]
  have f3 : w.frozen? ⟨Z, 3, none⟩ = false := by simp [World.frozen?, hZ]
  have lZ : Z < w.heap.size := (Array.getElem?_eq_some_iff.1 hZ).1
  have lZ1 : Z < w.heap.size + 1 := by omega
  have lg : g < w.heap.size := World.block_lt_of_cell? _ _ hg
  have lg1 : g < w.heap.size + 1 := by omega
  have nZg : ¬ Z = g := by omega
  clear hZ
  go_enter Tryz.func66, Tryz.ntmps66
  go_wp2_with fail
  refine bodyPost_ret (v := .nilIface) (by simp only [results, Tryz.results66]; go_simp) rfl ⟨rfl, fun i x hx => ?_, ?_⟩
  · rcases i with _ | _ | _ | _ | i <;> simp at hx <;> subst hx <;> go_simp
  · have h0 := Below.refl Z w
    exact (by repeat (first | with_reducible assumption | with_reducible refine Below.drew ?_ | with_reducible refine below_drewN' ?_ _ | with_reducible refine Below.alloc ?_ ?_ _ | with_reducible refine Below.setCell ?_ ?_ _ | with_reducible exact Nat.le_refl _ | omega | focus (simp; done) | focus (simp; omega)))

theorem rec_hs {Z k : Nat} {v n : Int} {p : Option Addr} {m c : Nat} {w : World} (hZ : w.heap[Z]? = some (.cells #[.int .u8 0, .int .u16 0, .int .u16 0] 159 (0, 0))) :
    Calls Tryz.prog 68 #[.pointer (some ⟨Z, 0, none⟩), .agg #[.int .u8 22, .int .u16 v, .int .u16 n], .slice p m c, .iface 196 (.pointer (some ⟨k, 0, none⟩))] w fun e w' =>
      e = .returned .nilIface ∧ (∀ i x, [Value.int .u8 22, .int .u16 v, .int .u16 n][i]? = some x → w'.cell? ⟨Z, i, none⟩ = some x) ∧ Below Z w w' := by
  have d0 : w.cell? ⟨Z, 0, none⟩ = some (.int .u8 0) := by simp [World.cell?, hZ]
  have d1 : w.cell? ⟨Z, 1, none⟩ = some (.int .u16 0) := by simp [World.cell?, hZ]
  have d2 : w.cell? ⟨Z, 2, none⟩ = some (.int .u16 0) := by simp [World.cell?, hZ]
  have f0 : w.frozen? ⟨Z, 0, none⟩ = false := by simp [World.frozen?, hZ]
  have f1 : w.frozen? ⟨Z, 1, none⟩ = false := by simp [World.frozen?, hZ]
  have f2 : w.frozen? ⟨Z, 2, none⟩ = false := by simp [World.frozen?, hZ]
  have lZ : Z < w.heap.size := (Array.getElem?_eq_some_iff.1 hZ).1
  have lZ1 : Z < w.heap.size + 1 := by omega
  clear hZ
  go_enter Tryz.func68, Tryz.ntmps68
  go_wp2_with fail
  refine bodyPost_ret (v := .nilIface) (by simp only [results, Tryz.results68]; go_simp) rfl ⟨rfl, fun i x hx => ?_, ?_⟩
  · rcases i with _ | _ | _ | i <;> simp at hx <;> subst hx <;> go_simp
  · have h0 := Below.refl Z w
    exact (by repeat (first | with_reducible assumption | with_reducible refine Below.drew ?_ | with_reducible refine below_drewN' ?_ _ | with_reducible refine Below.alloc ?_ ?_ _ | with_reducible refine Below.setCell ?_ ?_ _ | with_reducible exact Nat.le_refl _ | omega | focus (simp; done) | focus (simp; omega)))

theorem rec_app {Z k : Nat} {v : Int} {p : Option Addr} {m c : Nat} {w : World} (hm : m ≤ 65535) (hZ : w.heap[Z]? = some (.cells #[.int .u8 0, .int .u16 0, .int .u16 0, .slice none 0 0] 161 (0, 0))) :
    Calls Tryz.prog 69 #[.pointer (some ⟨Z, 0, none⟩), .agg #[.int .u8 23, .int .u16 v, .int .u16 (m : Int)], .slice p m c, .iface 196 (.pointer (some ⟨k, 0, none⟩))] w fun e w' =>
      e = .returned .nilIface ∧ (∀ i x, [Value.int .u8 23, .int .u16 v, .int .u16 (m : Int), .slice p m c][i]? = some x → w'.cell? ⟨Z, i, none⟩ = some x) ∧ Below Z w w' := by
  have d0 : w.cell? ⟨Z, 0, none⟩ = some (.int .u8 0) := by simp [World.cell?, hZ]
  have d1 : w.cell? ⟨Z, 1, none⟩ = some (.int .u16 0) := by simp [World.cell?, hZ]
  have d2 : w.cell? ⟨Z, 2, none⟩ = some (.int .u16 0) := by simp [World.cell?, hZ]
  have d3 : w.cell? ⟨Z, 3, none⟩ = some (.slice none 0 0) := by simp [World.cell?, hZ]
  have f0 : w.frozen? ⟨Z, 0, none⟩ = false := by simp [World.frozen?, hZ]
  have f1 : w.frozen? ⟨Z, 1, none⟩ = false := by simp [World.frozen?, hZ]
  have f2 : w.frozen? ⟨Z, 2, none⟩ = false := by simp [World.frozen?, hZ]
  have f3 : w.frozen? ⟨Z, 3, none⟩ = false := by simp [World.frozen?, hZ]
  have lZ : Z < w.heap.size := (Array.getElem?_eq_some_iff.1 hZ).1
  have lZ1 : Z < w.heap.size + 1 := by omega
  have hmi : (m : Int) ≤ 65535 := by omega
  clear hZ
  go_enter Tryz.func69, Tryz.ntmps69
  go_wp2_with fail
  refine bodyPost_ret (v := .nilIface) (by simp only [results, Tryz.results69]; go_simp) rfl ⟨rfl, fun i x hx => ?_, ?_⟩
  · rcases i with _ | _ | _ | _ | i <;> simp at hx <;> subst hx <;> go_simp
  · have h0 := Below.refl Z w
    exact (by repeat (first | with_reducible assumption | with_reducible refine Below.drew ?_ | with_reducible refine below_drewN' ?_ _ | with_reducible refine Below.alloc ?_ ?_ _ | with_reducible refine Below.setCell ?_ ?_ _ | with_reducible exact Nat.le_refl _ | omega | focus (simp; done) | focus (simp; omega)))

theorem rec_al {Z g o c k : Nat} {v a b : Int} {w : World} (hZ : w.heap[Z]? = some (.cells #[.int .u8 0, .int .u16 0, .int .u16 0, .int .u8 0, .int .u8 0, .slice none 0 0] 165 (0, 0))) (hg : w.cell? ⟨g, o, none⟩ = some (.int .u8 a)) (hg1 : w.cell? ⟨g, o + 1, none⟩ = some (.int .u8 b)) (hgZ : ¬ g = Z) :
    Calls Tryz.prog 67 #[.pointer (some ⟨Z, 0, none⟩), .agg #[.int .u8 21, .int .u16 v, .int .u16 2], .slice (some ⟨g, o, none⟩) 2 c, .iface 196 (.pointer (some ⟨k, 0, none⟩))] w fun e w' =>
      e = .returned .nilIface ∧ (∀ i x, [Value.int .u8 21, .int .u16 v, .int .u16 2, .int .u8 a, .int .u8 b, .slice none 0 0][i]? = some x → w'.cell? ⟨Z, i, none⟩ = some x) ∧ Below Z w w' := by
  have d0 : w.cell? ⟨Z, 0, none⟩ = some (.int .u8 0) := by simp [World.cell?, hZ]
  have d1 : w.cell? ⟨Z, 1, none⟩ = some (.int .u16 0) := by simp [World.cell?, hZ]
  have d2 : w.cell? ⟨Z, 2, none⟩ = some (.int .u16 0) := by simp [World.cell?, hZ]
  have d3 : w.cell? ⟨Z, 3, none⟩ = some (.int .u8 0) := by simp [World.cell?, hZ]
  have d4 : w.cell? ⟨Z, 4, none⟩ = some (.int .u8 0) := by simp [World.cell?, hZ]
  have d5 : w.cell? ⟨Z, 5, none⟩ = some (.slice none 0 0) := by simp [World.cell?, hZ]
  have f0 : w.frozen? ⟨Z, 0, none⟩ = false := by simp [World.frozen?, hZ]
  have f1 : w.frozen? ⟨Z, 1, none⟩ = false := by simp [World.frozen?, hZ]
  have f2 : w.frozen? ⟨Z, 2, none⟩ = false := by simp [World.frozen?, hZ]
  have f3 : w.frozen? ⟨Z, 3, none⟩ = false := by simp [World.frozen?, hZ]
  have f4 : w.frozen? ⟨Z, 4, none⟩ = false := by simp [World.frozen?, hZ]
  have lZ : Z < w.heap.size := (Array.getElem?_eq_some_iff.1 hZ).1
  have lZ1 : Z < w.heap.size + 1 := by omega
  have lg : g < w.heap.size := World.block_lt_of_cell? _ _ hg
  have lg1 : g < w.heap.size + 1 := by omega
  have nZg : ¬ Z = g := by omega
  clear hZ
  go_enter Tryz.func67, Tryz.ntmps67
  go_wp2_with fail
  refine bodyPost_ret (v := .nilIface) (by simp only [results, Tryz.results67]; go_simp) rfl ⟨rfl, fun i x hx => ?_, ?_⟩
  · rcases i with _ | _ | _ | _ | _ | _ | i <;> simp at hx <;> subst hx <;> go_simp
  · have h0 := Below.refl Z w
    exact (by repeat (first | with_reducible assumption | with_reducible refine Below.drew ?_ | with_reducible refine below_drewN' ?_ _ | with_reducible refine Below.alloc ?_ ?_ _ | with_reducible refine Below.setCell ?_ ?_ _ | with_reducible exact Nat.le_refl _ | omega | focus (simp; done) | focus (simp; omega)))
end Go.Proofs.YtmpifdanfnebpaaGreat
