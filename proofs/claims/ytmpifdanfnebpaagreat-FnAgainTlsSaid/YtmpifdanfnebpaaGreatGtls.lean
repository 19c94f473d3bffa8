/-
  laws.again of tls.
-/
import Derived.Test.YtmpifdanfnebpaaGreatAgain
import Derived.Test.YtmpifdanfnebpaaGreatAlive
import Derived.Test.YtmpifdanfnebpaaGreatS2tls
import Derived.Test.YtmpifdanfnebpaaGreatPtls
import Derived.Test.YtmpifdanfnebpaaGreatWtls
import Derived.Test.YtmpifdanfnebpaaGreatMtls
namespace Go.Proofs.YtmpifdanfnebpaaGreat
open Go Go.RowKit

set_option maxHeartbeats 4000000 in
theorem write_tls {bs : List Int} {rs : List (Nat × (List Int × List Int))} (hb : ∀ z ∈ bs, 0 ≤ z ∧ z ≤ 255) (hl : bs.length ≤ 400) (h5 : 5 ≤ bs.length) (hd : dTls bs = some (some rs)) (h50 : (tAll rs).length ≤ 50) (hp : pRecs 0 rs = true) :
    WriteOf (.string ⟨#[116, 108, 115]⟩) ⟨[], [], tAll rs, []⟩ bs := by
  obtain ⟨hok, hfl⟩ := dTls_back _ 0 bs rs (Nat.le_refl _) hl hb hd hp
  have hso := tAll_sorted 0 hok hp
  have hokp : ∀ p ∈ tAll rs, OkP p := by
    intro p hp
    rw [hso] at hp
    obtain ⟨r, hr, rfl⟩ := List.mem_map.1 hp
    exact (hok r hr).okP
  have hall := flat_tAll hok hp
  rw [hfl] at hall
  have hsl : ∀ i, (sel i (tAll rs)).length ≤ 50 := fun i => Nat.le_trans (sel_le i _) h50
  have hm : ∀ i, ∀ p ∈ sel i (tAll rs), OkP p := fun i p hp => hokp p (sel_mem hp).1
  have hlen := congrArg List.length hall
  simp only [List.length_append] at hlen
  have hd2 : ∀ p ∈ tAll rs, p.2.length ≤ 2000 := by
    intro p hp
    rcases hokp p hp with ⟨_, _, _, rfl, _⟩ | ⟨_, _, _, rfl, _, _, h⟩ | ⟨_, _, _, _, rfl, _⟩
    · simp
    · exact Nat.le_trans h (by omega)
    · simp
  have := write_c (made_tls h50 hokp) (ser_tls (xs := fun i => sel i (tAll rs)) (hm 0) (sel1 hokp) (hm 2) (hm 3) hsl (by omega)) m_ser_tls c_ser_tls (by simp) (by simp) hd2 h50 (by rw [hall]; omega)
  rw [hall] at this
  exact this

theorem again_tls {bs : List Int} (hb : ∀ z ∈ bs, 0 ≤ z ∧ z ≤ 255) {v : Value} {w : World} (h : SB w (fun _ => True) v bs) (hlim : bs.length ≤ 2147483648) :
    Calls Tryz.prog 5 #[.string ⟨#[116, 108, 115]⟩, v] w fun e w' => e = .returned (.bool true) ∧ Below w.heap.size w w' := by
  by_cases h5 : bs.length < 5
  · refine again_c (p := true) (by kernel_rfl) (specOf_tls (fun h => sTls_short h) (fun h => helpOf_tls hb hlim h)) (fun _ l hd => ?_) (fun _ l hd => ?_) alive_c h
    · rw [sTls_short h5] at hd; cases hd
    · rw [sTls_short h5] at hd; cases hd
  · cases hd : dTls bs with
    | none =>
      refine again_c (p := true) (by kernel_rfl) (specOf_tls (fun h => sTls_short h) (fun h => helpOf_tls hb hlim h)) (fun _ l hl => ?_) (fun _ l hl => ?_) alive_c h
      · rw [sTls_long (by omega), hd] at hl; cases hl
      · rw [sTls_long (by omega), hd] at hl; cases hl
    | some x =>
      cases x with
      | none =>
        refine again_c (p := true) (by kernel_rfl) (specOf_tls (fun h => sTls_short h) (fun h => helpOf_tls hb hlim h)) (fun _ l hl => ?_) (fun _ l hl => ?_) alive_c h
        · rw [sTls_long (by omega), hd] at hl; cases hl
        · rw [sTls_long (by omega), hd] at hl; cases hl
      | some rs =>
        refine again_c (p := pRecs 0 rs) (by kernel_rfl) (specOf_tls (fun h => sTls_short h) (fun h => helpOf_tls hb hlim h)) (fun h4 l hl => plain_tls hb (by omega) h4 hd) (fun h4 l hl h50 hp => ?_) alive_c h
        rw [sTls_long (by omega), hd] at hl
        obtain rfl := Option.some.inj (Option.some.inj hl)
        exact write_tls hb h4 (by omega) hd h50 hp
end Go.Proofs.YtmpifdanfnebpaaGreat
