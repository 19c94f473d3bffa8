/-
  How long a message of RADIUS is.
-/
import Derived.Test.YtaejicpdaldpiaaGreatBytes
import Derived.Test.YtaejicpdaldpiaaGreatSrcs
namespace Go.Proofs.YtaejicpdaldpiaaGreat
open Go Go.RowKit

def MIsRadius (a b n : Int) (auth : List Int) (ps : List (List Int × List Int)) (w : World) (X : Nat) : Prop :=
  X < w.heap.size ∧ w.cell? ⟨X, 2, none⟩ = some (.int .u8 a) ∧ w.cell? ⟨X, 3, none⟩ = some (.int .u8 b) ∧ w.cell? ⟨X, 4, none⟩ = some (.int .u16 n) ∧ (∀ i x, auth[i]? = some x → w.cell? ⟨X, 5 + i, none⟩ = some (.int .u8 x)) ∧
    ∃ v, w.cell? ⟨X, 21, none⟩ = some v ∧ Rows eA w 0 (fun _ => True) 129 v ps

/-- What attributes are as bytes. -/
def aB (p : List Int × List Int) : List Int := match p.1 with
  | [a, n] => a :: n :: p.2
  | _ => []
def OkAttr (p : List Int × List Int) : Prop := ∃ a n, p.1 = [a, n] ∧ (0 ≤ a ∧ a < 256) ∧ n = (p.2.length : Int) + 2 ∧ p.2.length ≤ 253
theorem aB_len {p : List Int × List Int} (h : OkAttr p) : (aB p).length = 2 + p.2.length := by
  obtain ⟨a, n, h1, -⟩ := h
  simp [aB, h1]
  omega
theorem flat_snocA {ps : List (List Int × List Int)} {k : Nat} {p : List Int × List Int} (h : ps[k]? = some p) : (ps.take (k + 1)).flatMap aB = (ps.take k).flatMap aB ++ aB p := by
  rw [List.take_add_one, h]
  simp
theorem flat_leA {ps : List (List Int × List Int)} (h : ∀ p ∈ ps, OkAttr p) : ∀ k, ((ps.take k).flatMap aB).length ≤ 255 * k := by
  intro k
  induction k with
  | zero => simp
  | succ k ih =>
    rw [List.take_add_one]
    cases hk : ps[k]? with
    | none => simp at ih ⊢; omega
    | some p =>
      have hp := h p (List.mem_of_getElem? hk)
      have := aB_len hp
      obtain ⟨_, _, _, _, _, h5⟩ := hp
      simp at ih ⊢
      omega
theorem flat_takeA {ps : List (List Int × List Int)} (k : Nat) : ((ps.take k).flatMap aB).length ≤ (ps.flatMap aB).length := by
  have e : ps.flatMap aB = (ps.take k).flatMap aB ++ (ps.drop k).flatMap aB := by rw [← List.flatMap_append, List.take_append_drop]
  rw [e, List.length_append]
  omega

theorem vlen_c {p : Option Addr} {n c : Nat} {w : World} (hn : n ≤ 255) :
    Calls Tryz.prog 135 #[.slice p n c] w fun e w' => e = .returned (.tuple #[.int .u8 (n : Int), .nilIface]) ∧ w = w' := by
  have h1 : ¬ (255 : Int) < (n : Int) := by omega
  have h2 : 0 ≤ (n : Int) ∧ (n : Int) ≤ 255 := by omega
  go_enter Tryz.func135, Tryz.ntmps135
  go_wp2_with fail
  refine bodyPost_ret (v := .tuple #[.int .u8 (n : Int), .nilIface]) (by simp only [results, Tryz.results135]; go_simp) rfl ⟨rfl, rfl⟩

set_option maxRecDepth 100000 in
set_option maxHeartbeats 4000000 in
theorem lenr_c {w0 w : World} {X : Nat} {v : Value} {ps : List (List Int × List Int)} (lX : X < w0.heap.size) (c7 : w0.cell? ⟨X, 21, none⟩ = some v) (hr : Rows eA w0 0 (fun _ => True) 129 v ps)
    (hok : ∀ p ∈ ps, OkAttr p) (hn : ps.length ≤ 50) (hb : Below w0.heap.size w0 w) :
    Calls Tryz.prog 134 #[.pointer (some ⟨X, 0, none⟩)] w fun e w' => e = .returned (.tuple #[.int .i64 (((20 + (ps.flatMap aB).length : Nat) : Nat) : Int), .nilIface]) ∧ Below w.heap.size w w' := by
  obtain ⟨pI, cI, rfl⟩ := hr.form
  have HR := Lib.hid hr
  have HB := Lib.hid hb
  have c7w : w.cell? ⟨X, 21, none⟩ = _ := (hb.cell (p := ⟨X, 21, none⟩) lX).trans c7
  have lXw : X < w.heap.size := Nat.lt_of_lt_of_le lX hb.size
  have HOK := Lib.hid hok
  obtain ⟨n, hnn⟩ : ∃ n, n = ps.length := ⟨_, rfl⟩
  rw [← hnn] at c7w
  have HNN := Lib.hid hnn
  have n50 : n ≤ 50 := by omega
  clear hr hb hok c7 hnn hn
  go_enter Tryz.func134, Tryz.ntmps134
  go_wp2_with fail
  go_loopw [4, 6, 7, 8, 14] (fun s _ _ _ i wr => ∃ k : Nat, k ≤ n ∧ i = .int .i64 (k : Int) ∧ s = .int .i64 ((20 : Int) + (((ps.take k).flatMap aB).length : Int)) ∧ Below w.heap.size w wr) (fun _ _ _ _ i _ => n - (intOf i).toNat)
  case atStart => exact ⟨0, Nat.zero_le _, rfl, rfl, Below.refl _ _⟩
  case round =>
    obtain ⟨k, hk, rfl, rfl, hwr⟩ := hrel
    have hle := flat_leA HOK.out k
    by_cases hlt : k < n
    · obtain ⟨gI, cI', cs, p, hiv, hgI, -, hp, hcs, a, nn, u, rfl, hp1, hu, -⟩ := HR.out.get (j := k) (by have := HNN.out; omega)
      simp only [Value.slice.injEq] at hiv
      obtain ⟨rfl, -, rfl⟩ := hiv
      have hsn := flat_snocA hp
      have hpo := HOK.out p (List.mem_of_getElem? hp)
      have hol := aB_len hpo
      obtain ⟨a', n', h1, -, h2, h3⟩ := hpo
      rw [hp1] at h1
      obtain ⟨rfl, rfl⟩ : a = a' ∧ nn = n' := by simpa using h1
      have hcell : ∀ i x, [Value.int .u8 a, .int .u8 nn, u][i]? = some x → wr.cell? ⟨gI, k * 3 + i, none⟩ = some x := fun i x hx => (hwr.cell (p := ⟨gI, k * 3 + i, none⟩) (Nat.lt_of_lt_of_le hgI HB.out.size)).trans ((HB.out.cell (p := ⟨gI, k * 3 + i, none⟩) hgI).trans (hcs i x hx))
      have k0 := hcell 0 _ rfl
      have k1 := hcell 1 _ rfl
      have k2 := hcell 2 _ rfl
      rw [Nat.add_zero] at k0
      obtain ⟨pu, cu, rfl, -⟩ := hu
      obtain ⟨lk, hlk⟩ : ∃ l, l = ((ps.take k).flatMap aB).length := ⟨_, rfl⟩
      rw [← hlk]
      have hI : ((k : Nat) : Int) < (n : Int) := by omega
      have lgr : gI < wr.heap.size := Nat.lt_of_lt_of_le hgI (Nat.le_trans HB.out.size hwr.size)
      have HSN := Lib.hid hsn
      have HOL := Lib.hid hol
      have HLK := Lib.hid hlk
      have HWR := Lib.hid hwr
      have HK1 := Lib.hid hlt
      have hlk2 : lk ≤ 255 * 50 := by omega
      clear hcs hcell hwr hsn hol hlk h1 h2 hp1 hp hle hgI
      go_wp2_with fail
      refine (vlen_c (by omega)).mono ?_
      rintro e w' ⟨rfl, rfl⟩
      go_wp2_with fail
      go_roundw
      case rel => exact ⟨k + 1, HK1.out, by go_num, by have h2 := HOL.out; have h3 := HLK.out; rw [HSN.out, List.length_append]; congr 1; omega, by have h0 := HWR.out; have := h0.size; exact (by repeat (first | with_reducible assumption | with_reducible refine Below.drew ?_ | with_reducible refine below_drewN' ?_ _ | with_reducible refine Below.alloc ?_ ?_ _ | with_reducible refine Below.setCell ?_ ?_ _ | with_reducible exact Nat.le_refl _ | omega | focus (simp; done) | focus (simp; omega)))⟩
      case measure => have := HK1.out; simp [intOf]; omega
    · obtain rfl : k = n := by omega
      have hI : ¬ ((k : Nat) : Int) < (k : Int) := by omega
      rw [List.take_of_length_le (by have := HNN.out; omega)] at *
      obtain ⟨lk, hlk⟩ : ∃ l, l = (ps.flatMap aB).length := ⟨_, rfl⟩
      rw [← hlk]
      have HLK := Lib.hid hlk
      clear hlk
      go_wp2_with fail
      refine bodyPost_ret (v := .tuple #[.int .i64 ((20 : Int) + (lk : Int)), .nilIface]) (by simp only [results, Tryz.results134]; go_simp) rfl ⟨?_, hwr⟩
      have h := HLK.out
      subst h
      simp
end Go.Proofs.YtaejicpdaldpiaaGreat
