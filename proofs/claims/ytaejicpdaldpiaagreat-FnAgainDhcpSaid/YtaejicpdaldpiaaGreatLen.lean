/-
  How long a message of DHCPv6 is.
-/
import Derived.Test.YtaejicpdaldpiaaGreatEnc
import Derived.Test.YtaejicpdaldpiaaGreatDopt
namespace Go.Proofs.YtaejicpdaldpiaaGreat
open Go Go.RowKit

def MIsDhcp (t h : Int) (la pa ti : List Int) (ps : List (List Int × List Int)) (w : World) (X : Nat) : Prop :=
  X < w.heap.size ∧ w.cell? ⟨X, 2, none⟩ = some (.int .u8 t) ∧ w.cell? ⟨X, 3, none⟩ = some (.int .u8 h) ∧ (∃ v, w.cell? ⟨X, 4, none⟩ = some v ∧ SB w (fun _ => True) v la) ∧ (∃ v, w.cell? ⟨X, 5, none⟩ = some v ∧ SB w (fun _ => True) v pa) ∧
    (∃ v, w.cell? ⟨X, 6, none⟩ = some v ∧ SB w (fun _ => True) v ti) ∧ ∃ v, w.cell? ⟨X, 7, none⟩ = some v ∧ Rows eO w 0 (fun _ => True) 115 v ps

/-- What options are as bytes. -/
def oB (p : List Int × List Int) : List Int := match p.1 with
  | [a, n] => a / 256 :: a % 256 :: n / 256 :: n % 256 :: p.2
  | _ => []
def OkOpt (p : List Int × List Int) : Prop := ∃ a n, p.1 = [a, n] ∧ (0 ≤ a ∧ a < 65536) ∧ n = (p.2.length : Int) ∧ p.2.length ≤ 1000
theorem oB_len {p : List Int × List Int} (h : OkOpt p) : (oB p).length = 4 + p.2.length := by
  obtain ⟨a, n, h1, -⟩ := h
  simp [oB, h1]
  omega
theorem flat_snocO {ps : List (List Int × List Int)} {k : Nat} {p : List Int × List Int} (h : ps[k]? = some p) : (ps.take (k + 1)).flatMap oB = (ps.take k).flatMap oB ++ oB p := by
  rw [List.take_add_one, h]
  simp
theorem flat_leO {ps : List (List Int × List Int)} (h : ∀ p ∈ ps, OkOpt p) : ∀ k, ((ps.take k).flatMap oB).length ≤ 1004 * k := by
  intro k
  induction k with
  | zero => simp
  | succ k ih =>
    rw [List.take_add_one]
    cases hk : ps[k]? with
    | none => simp at ih ⊢; omega
    | some p =>
      have hp := h p (List.mem_of_getElem? hk)
      have := oB_len hp
      obtain ⟨_, _, _, _, _, h5⟩ := hp
      simp at ih ⊢
      omega

set_option maxRecDepth 100000 in
set_option maxHeartbeats 4000000 in
theorem len_c {w0 w : World} {X : Nat} {t : Int} {v : Value} {ps : List (List Int × List Int)} (lX : X < w0.heap.size) (c2 : w0.cell? ⟨X, 2, none⟩ = some (.int .u8 t)) (c7 : w0.cell? ⟨X, 7, none⟩ = some v) (hr : Rows eO w0 0 (fun _ => True) 115 v ps)
    (hok : ∀ p ∈ ps, OkOpt p) (hn : ps.length ≤ 50) (hb : Below w0.heap.size w0 w) (rel : Bool) (ht : (t == 12 || t == 13) = rel) :
    Calls Tryz.prog 129 #[.pointer (some ⟨X, 0, none⟩)] w fun e w' => e = .returned (.int .i64 ((((if rel then 34 else 4) + (ps.flatMap oB).length : Nat) : Nat) : Int)) ∧ Below w.heap.size w w' := by
  obtain ⟨pI, cI, rfl⟩ := hr.form
  have HR := Lib.hid hr
  have HB := Lib.hid hb
  have c2w := (hb.cell (p := ⟨X, 2, none⟩) lX).trans c2
  have c7w : w.cell? ⟨X, 7, none⟩ = _ := (hb.cell (p := ⟨X, 7, none⟩) lX).trans c7
  have lXw : X < w.heap.size := Nat.lt_of_lt_of_le lX hb.size
  have HOK := Lib.hid hok
  obtain ⟨n, hnn⟩ : ∃ n, n = ps.length := ⟨_, rfl⟩
  rw [← hnn] at c7w
  have HNN := Lib.hid hnn
  have n50 : n ≤ 50 := by omega
  clear hr hb hok c2 c7 hnn hn
  obtain ⟨S, hS⟩ : ∃ S : Nat, S = if rel then 34 else 4 := ⟨_, rfl⟩
  have hS50 : S ≤ 34 := by rw [hS]; split <;> omega
  rw [← hS]
  have e12 : (t == 12) = true ∨ (t == 12) = false := by cases (t == 12) <;> simp
  have HS := Lib.hid hS
  clear hS
  go_enter Tryz.func129, Tryz.ntmps129
  have hcase : (rel = true ∧ ((t == 12) = true ∨ ((t == 12) = false ∧ (t == 13) = true))) ∨ (rel = false ∧ (t == 12) = false ∧ (t == 13) = false) := by
    cases h12 : (t == 12) <;> cases h13 : (t == 13) <;> simp [h12, h13] at ht <;> simp [← ht]
  rcases hcase with ⟨rfl, h12 | ⟨h12, h13⟩⟩ | ⟨rfl, h12, h13⟩
  all_goals
    have hSv := HS.out
    simp only [if_true, if_false, Bool.false_eq_true] at hSv
    clear e12 ht HS
    go_wp2_with fail
    go_loopw [3, 5, 27] (fun s _ i wr => ∃ k : Nat, k ≤ n ∧ i = .int .i64 (k : Int) ∧ s = .int .i64 ((S : Int) + (((ps.take k).flatMap oB).length : Int)) ∧ Below w.heap.size w wr) (fun _ _ i _ => n - (intOf i).toNat)
    case atStart => exact ⟨0, Nat.zero_le _, rfl, by rw [hSv]; rfl, Below.refl _ _⟩
    case round =>
      obtain ⟨k, hk, rfl, rfl, hwr⟩ := hrel
      have hle := flat_leO HOK.out k
      by_cases hlt : k < n
      · obtain ⟨gI, cI', cs, p, hiv, hgI, -, hp, hcs, a, nn, u, rfl, hp1, hu, -⟩ := HR.out.get (j := k) (by have := HNN.out; omega)
        simp only [Value.slice.injEq] at hiv
        obtain ⟨rfl, -, rfl⟩ := hiv
        have hsn := flat_snocO hp
        have hpo := HOK.out p (List.mem_of_getElem? hp)
        have hol := oB_len hpo
        obtain ⟨a', n', h1, -, h2, h3⟩ := hpo
        rw [hp1] at h1
        obtain ⟨rfl, rfl⟩ : a = a' ∧ nn = n' := by simpa using h1
        have hcell : ∀ i x, [Value.int .u16 a, .int .u16 nn, u][i]? = some x → wr.cell? ⟨gI, k * 3 + i, none⟩ = some x := fun i x hx => (hwr.cell (p := ⟨gI, k * 3 + i, none⟩) (Nat.lt_of_lt_of_le hgI HB.out.size)).trans ((HB.out.cell (p := ⟨gI, k * 3 + i, none⟩) hgI).trans (hcs i x hx))
        have k0 := hcell 0 _ rfl
        have k1 := hcell 1 _ rfl
        have k2 := hcell 2 _ rfl
        rw [Nat.add_zero] at k0
        obtain ⟨pu, cu, rfl, -⟩ := hu
        obtain ⟨lk, hlk⟩ : ∃ l, l = ((ps.take k).flatMap oB).length := ⟨_, rfl⟩
        rw [← hlk]
        have hI : ((k : Nat) : Int) < (n : Int) := by omega
        have lgr : gI < wr.heap.size := Nat.lt_of_lt_of_le hgI (Nat.le_trans HB.out.size hwr.size)
        have HSN := Lib.hid hsn
        have HOL := Lib.hid hol
        have HLK := Lib.hid hlk
        have HWR := Lib.hid hwr
        have HK1 := Lib.hid hlt
        have b1 : 0 ≤ nn ∧ nn ≤ 1000 := by omega
        have HN2 := Lib.hid h2
        have hlk2 : lk ≤ 1004 * 50 := by omega
        clear hcs hcell hwr hsn hol hlk h1 h2 hp1 hp hle hgI
        go_wp2_with fail
        go_roundw
        case rel => exact ⟨k + 1, HK1.out, by go_num, by have h1 := HN2.out; have h2 := HOL.out; have h3 := HLK.out; rw [HSN.out, List.length_append]; congr 1; omega, by have h0 := HWR.out; have := h0.size; exact (by repeat (first | with_reducible assumption | with_reducible refine Below.drew ?_ | with_reducible refine below_drewN' ?_ _ | with_reducible refine Below.alloc ?_ ?_ _ | with_reducible refine Below.setCell ?_ ?_ _ | with_reducible exact Nat.le_refl _ | omega | focus (simp; done) | focus (simp; omega)))⟩
        case measure => have := HK1.out; simp [intOf]; omega
      · obtain rfl : k = n := by omega
        have hI : ¬ ((k : Nat) : Int) < (k : Int) := by omega
        rw [List.take_of_length_le (by have := HNN.out; omega)] at *
        obtain ⟨lk, hlk⟩ : ∃ l, l = (ps.flatMap oB).length := ⟨_, rfl⟩
        rw [← hlk]
        have HLK := Lib.hid hlk
        clear hlk
        go_wp2_with fail
        go_ret
        refine ⟨?_, hwr⟩
        have h := HLK.out
        subst h
        simp
end Go.Proofs.YtaejicpdaldpiaaGreat
