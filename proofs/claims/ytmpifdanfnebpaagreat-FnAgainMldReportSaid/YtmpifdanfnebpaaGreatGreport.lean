/-
  laws.again of mldreport2.
-/
import Derived.Test.YtmpifdanfnebpaaGreatAgain
import Derived.Test.YtmpifdanfnebpaaGreatAlive
import Derived.Test.YtmpifdanfnebpaaGreatS2report
import Derived.Test.YtmpifdanfnebpaaGreatPreport
import Derived.Test.YtmpifdanfnebpaaGreatWreport
import Derived.Test.YtmpifdanfnebpaaGreatMreport
namespace Go.Proofs.YtmpifdanfnebpaaGreat
open Go Go.RowKit

theorem len_sumR (ps : List (List Int × List Int)) : ps.length ≤ sumR ps := by
  induction ps with
  | nil => simp
  | cons p ps ih =>
    simp only [sumR, List.map_cons, List.sum_cons, List.length_cons] at ih ⊢
    omega

set_option maxHeartbeats 4000000 in
theorem write_report {x2 x3 : Int} {ps : List (List Int × List Int)} (h2 : 0 ≤ x2 ∧ x2 ≤ 255) (h3 : 0 ≤ x3 ∧ x3 ≤ 255) (hl : (ps.flatMap rB).length ≤ 400) (hok : ∀ p ∈ ps, OkM p) (h50 : ps.length ≤ 50) :
    WriteOf (.string ⟨#[109, 108, 100, 114, 101, 112, 111, 114, 116, 50]⟩) ⟨[((x2 * 256 + x3).toNat : Int)], [], ps, []⟩ (0 :: 0 :: x2 :: x3 :: ps.flatMap rB) := by
  have hM : (((x2 * 256 + x3).toNat : Nat) : Int) = x2 * 256 + x3 := by omega
  have hm := made_report (M := (x2 * 256 + x3).toNat) (by omega) h50 hok
  have hs := ser_report h2 h3 hl h50
  rw [← hM] at hs
  exact write_c hm hs m_ser_report c_ser_report (by simp) (by simp) (fun p hp => by obtain ⟨_, _, _, _, _, _, _, _, h⟩ := hok p hp; exact Nat.le_trans h (by omega)) h50 (by simp only [List.length_cons]; omega)

theorem again_report {bs : List Int} (hb : ∀ z ∈ bs, 0 ≤ z ∧ z ≤ 255) {v : Value} {w : World} (h : SB w (fun _ => True) v bs) (hlim : bs.length ≤ 2147483648) :
    Calls Tryz.prog 5 #[.string ⟨#[109, 108, 100, 114, 101, 112, 111, 114, 116, 50]⟩, v] w fun e w' => e = .returned (.bool true) ∧ Below w.heap.size w w' := by
  have hs := specOf_report (bs := bs) (D := some (dReport bs)) (fun h => by rw [dReport_short h]) (fun h => helpOf_report hb hlim h)
  by_cases h4 : bs.length < 4
  · refine again_c (p := true) (by kernel_rfl) hs (fun _ l hd => ?_) (fun _ l hd => ?_) alive_c h
    · rw [dReport_short h4] at hd; cases hd
    · rw [dReport_short h4] at hd; cases hd
  · obtain ⟨x0, x1, x2, x3, rest, rfl⟩ := four (l := bs) (by omega)
    cases hd : dRecs (x2 * 256 + x3).toNat rest with
    | none =>
      have hD : dReport (x0 :: x1 :: x2 :: x3 :: rest) = none := by show Option.map _ (dRecs _ rest) = _; rw [hd]; rfl
      rw [hD] at hs
      refine again_c (p := true) (by kernel_rfl) hs (fun _ l hd => ?_) (fun _ l hd => ?_) alive_c h
      · cases hd
      · cases hd
    | some ps =>
      have hD : dReport (x0 :: x1 :: x2 :: x3 :: rest) = some ⟨[((x2 * 256 + x3).toNat : Int)], [], ps, []⟩ := by show Option.map _ (dRecs _ rest) = _; rw [hd]; rfl
      rw [hD] at hs
      refine again_c (p := (x0 == 0 && x1 == 0) && decide (4 + sumR ps = rest.length + 4)) (by kernel_rfl) hs (fun h4 l hl => ?_) (fun h4 l hl h50 hp => ?_) alive_c h
      · obtain rfl := Option.some.inj (Option.some.inj hl)
        have hr : rest.length ≤ 400 := by simp only [List.length_cons] at h4; omega
        obtain ⟨hok, t, ht⟩ := dRecs_back _ rest ps hr (fun z hz => hb z (by simp [hz])) hd
        have h1 := sumR_len hok
        have h2 := congrArg List.length ht
        rw [List.length_append] at h2
        have h3 := len_sumR ps
        exact plain_report hs hr (show ps.length ≤ 400 by omega) (show sumR ps ≤ 1000 by omega)
      · obtain rfl := Option.some.inj (Option.some.inj hl)
        have hr : rest.length ≤ 400 := by simp only [List.length_cons] at h4; omega
        obtain ⟨hok, t, ht⟩ := dRecs_back _ rest ps hr (fun z hz => hb z (by simp [hz])) hd
        have h1 := sumR_len hok
        have h2 := congrArg List.length ht
        rw [List.length_append] at h2
        simp only [Bool.and_eq_true, beq_iff_eq, decide_eq_true_eq] at hp
        obtain ⟨⟨rfl, rfl⟩, hsum⟩ := hp
        obtain rfl : t = [] := List.eq_nil_of_length_eq_zero (by omega)
        rw [List.append_nil] at ht
        have := write_report (x2 := x2) (x3 := x3) (ps := ps) (hb x2 (by simp)) (hb x3 (by simp)) (by omega) hok h50
        rw [← ht] at this
        exact this
end Go.Proofs.YtmpifdanfnebpaaGreat
