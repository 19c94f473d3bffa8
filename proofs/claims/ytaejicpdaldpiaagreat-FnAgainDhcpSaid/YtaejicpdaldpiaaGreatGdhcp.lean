/-
  laws.again of dhcpv6.
-/
import Derived.Test.YtaejicpdaldpiaaGreatAgain
import Derived.Test.YtaejicpdaldpiaaGreatAlive
import Derived.Test.YtaejicpdaldpiaaGreatS2dhcp
import Derived.Test.YtaejicpdaldpiaaGreatPdhcp
import Derived.Test.YtaejicpdaldpiaaGreatWdhcp
import Derived.Test.YtaejicpdaldpiaaGreatMdhcp
namespace Go.Proofs.YtaejicpdaldpiaaGreat
open Go Go.RowKit

/-- Options that are read are written as they were. -/
theorem dOpts_back : ∀ (m : Nat) (l : List Int) (ps : List (List Int × List Int)), l.length ≤ m → (∀ z ∈ l, 0 ≤ z ∧ z ≤ 255) → dOpts l = some (some ps) → (∀ p ∈ ps, OkOpt p) ∧ ps.flatMap oB = l := by
  intro m
  induction m with
  | zero =>
    intro l ps hl _ h
    obtain rfl := List.eq_nil_of_length_eq_zero (by omega : l.length = 0)
    rw [dOpts_nil] at h
    simp at h
    subst h
    simp
  | succ m ih =>
    intro l ps hl hb h
    by_cases h0 : l = []
    · subst h0
      rw [dOpts_nil] at h
      simp at h
      subst h
      simp
    · by_cases h4 : l.length < 4
      · rw [dOpts_few h0 h4] at h
        simp at h
      · obtain ⟨a, b, c, d, rest, rfl⟩ := four (by omega : 4 ≤ l.length)
        have ba := hb a (by simp)
        have bb := hb b (by simp)
        have bc := hb c (by simp)
        have bd := hb d (by simp)
        by_cases ho : 1000 < c * 256 + d
        · rw [dOpts_open ho] at h
          cases h
        · obtain ⟨N, hN⟩ : ∃ N : Nat, c * 256 + d = (N : Int) := ⟨(c * 256 + d).toNat, by omega⟩
          by_cases hf : N ≤ rest.length
          · rw [dOpts_more hN ho hf] at h
            cases hr : dOpts (rest.drop N) with
            | none => rw [hr] at h; cases h
            | some x =>
              cases x with
              | none => rw [hr] at h; simp at h
              | some qs =>
                rw [hr] at h
                simp at h
                obtain ⟨g1, g2⟩ := ih _ qs (by simp at hl ⊢; omega) (fun z hz => hb z (by have := List.mem_of_mem_drop hz; simp [this])) hr
                subst h
                have hl2 : (rest.take N).length = N := by rw [List.length_take]; omega
                refine ⟨fun p hp => ?_, ?_⟩
                · rcases List.mem_cons.1 hp with rfl | hp
                  · exact ⟨_, _, rfl, by omega, by rw [hl2], by rw [hl2]; omega⟩
                  · exact g1 p hp
                · rw [List.flatMap_cons, g2]
                  have e1 : (a * 256 + b) / 256 = a := by omega
                  have e2 : (a * 256 + b) % 256 = b := by omega
                  have e3 : (N : Int) / 256 = c := by omega
                  have e4 : (N : Int) % 256 = d := by omega
                  simp [oB, e1, e2, e3, e4]
          · rw [dOpts_long ho (by omega)] at h
            simp at h

theorem sDhcp_cases {bs : List Int} {l : Lay} (h : sDhcp bs = some (some l)) : ∃ x0 x1 x2 x3 rest ps, bs = x0 :: x1 :: x2 :: x3 :: rest ∧
    ((¬ (x0 = 12 ∨ x0 = 13) ∧ dOpts rest = some (some ps) ∧ l = ⟨[x0, 0], [[], [], [x1, x2, x3]], ps, []⟩) ∨
      ((x0 = 12 ∨ x0 = 13) ∧ 34 ≤ bs.length ∧ dOpts (bs.drop 34) = some (some ps) ∧ l = ⟨[x0, x1], [(bs.drop 2).take 16, (bs.drop 18).take 16, []], ps, []⟩)) := by
  by_cases h4 : bs.length < 4
  · rw [sDhcp_short h4] at h
    simp at h
  · obtain ⟨x0, x1, x2, x3, rest, rfl⟩ := four (by omega : 4 ≤ bs.length)
    by_cases hx : x0 = 12 ∨ x0 = 13
    · by_cases h34 : 34 ≤ (x0 :: x1 :: x2 :: x3 :: rest).length
      · rw [sDhcp_relay hx h34] at h
        cases hq : dOpts (List.drop 34 (x0 :: x1 :: x2 :: x3 :: rest)) with
        | none => rw [hq] at h; cases h
        | some q =>
          rw [hq] at h
          cases q with
          | none => simp at h
          | some ps =>
            simp only [Option.map_some, Option.some.injEq] at h
            exact ⟨x0, x1, x2, x3, rest, ps, rfl, .inr ⟨hx, h34, rfl, h.symm⟩⟩
      · rw [sDhcp_few hx h34] at h
        simp at h
    · rw [sDhcp_plain hx] at h
      rw [show List.drop 4 (x0 :: x1 :: x2 :: x3 :: rest) = rest from rfl] at h
      cases hq : dOpts rest with
      | none => rw [hq] at h; cases h
      | some q =>
        rw [hq] at h
        cases q with
        | none => simp at h
        | some ps =>
          simp only [Option.map_some, Option.some.injEq] at h
          exact ⟨x0, x1, x2, x3, rest, ps, rfl, .inl ⟨hx, hq, h.symm⟩⟩

set_option maxHeartbeats 4000000 in
theorem write_dhcp {bs : List Int} (hb : ∀ z ∈ bs, 0 ≤ z ∧ z ≤ 255) (hl : bs.length ≤ 400) {l : Lay} (hd : sDhcp bs = some (some l)) (h50 : l.parts.length ≤ 50) : WriteOf (.string ⟨#[100, 104, 99, 112, 118, 54]⟩) l bs := by
  obtain ⟨x0, x1, x2, x3, rest, ps, hbs, ⟨hx, hq, rfl⟩ | ⟨hx, h34, hq, rfl⟩⟩ := sDhcp_cases hd
  · subst hbs
    have h0 := hb x0 (by simp)
    obtain ⟨hok, hfl⟩ := dOpts_back _ rest ps (Nat.le_refl _) (fun z hz => hb z (by simp [hz])) hq
    have ht : (x0 == 12 || x0 == 13) = false := by simp; omega
    have := write_c (made_dhcp (t := x0) (hc := 0) (la := []) (pa := []) (ti := [x1, x2, x3]) (ps := ps) (pay := []) h0 (by omega) (by simp) (by simp) (by simp) h50 hok)
      (ser_dhcp_no (t := x0) (hc := 0) (la := []) (pa := []) (ti := [x1, x2, x3]) rfl hok h50 ht) m_ser_dhcp c_ser_dhcp (by simp) (fun d hd => by simp at hd; rcases hd with rfl | rfl | rfl <;> simp) (fun p hp => by obtain ⟨_, _, _, _, _, h⟩ := hok p hp; omega) h50 (by rw [hfl]; simp only [List.length_cons] at hl; simp; omega)
    rw [hfl] at this
    exact this
  · have h0 := hb x0 (by rw [hbs]; simp)
    have h1 := hb x1 (by rw [hbs]; simp)
    obtain ⟨hok, hfl⟩ := dOpts_back _ (bs.drop 34) ps (Nat.le_refl _) (fun z hz => hb z (List.mem_of_mem_drop hz)) hq
    have ht : (x0 == 12 || x0 == 13) = true := by simp; omega
    have l2 : ((bs.drop 2).take 16).length = 16 := by rw [List.length_take, List.length_drop]; omega
    have l18 : ((bs.drop 18).take 16).length = 16 := by rw [List.length_take, List.length_drop]; omega
    have e : (x0 :: x1 :: ((bs.drop 2).take 16 ++ (bs.drop 18).take 16)) ++ bs.drop 34 = bs := by
      have e1 : bs.drop 18 = (bs.drop 18).take 16 ++ bs.drop 34 := by
        rw [show bs.drop 34 = (bs.drop 18).drop 16 by rw [List.drop_drop], List.take_append_drop]
      have e2 : bs.drop 2 = (bs.drop 2).take 16 ++ bs.drop 18 := by
        rw [show bs.drop 18 = (bs.drop 2).drop 16 by rw [List.drop_drop], List.take_append_drop]
      have e3 : bs = x0 :: x1 :: bs.drop 2 := by rw [hbs]; rfl
      rw [List.cons_append, List.cons_append, List.append_assoc, ← e1, ← e2, ← e3]
    have := write_c (made_dhcp (t := x0) (hc := x1) (la := (bs.drop 2).take 16) (pa := (bs.drop 18).take 16) (ti := []) (ps := ps) (pay := []) h0 h1 (by omega) (by omega) (by simp) h50 hok)
      (ser_dhcp_rel (t := x0) (hc := x1) (la := (bs.drop 2).take 16) (pa := (bs.drop 18).take 16) (ti := []) l2 l18 hok h50 ht) m_ser_dhcp c_ser_dhcp (by simp) (fun d hd => by simp only [List.mem_cons, List.not_mem_nil, or_false] at hd; rcases hd with rfl | rfl | rfl <;> simp <;> omega) (fun p hp => by obtain ⟨_, _, _, _, _, h⟩ := hok p hp; omega) h50 (by rw [hfl, e]; omega)
    rw [hfl, e] at this
    exact this

theorem again_dhcp {bs : List Int} (hb : ∀ z ∈ bs, 0 ≤ z ∧ z ≤ 255) {v : Value} {w : World} (h : SB w (fun _ => True) v bs) (hlim : bs.length ≤ 2147483648) :
    Calls Tryz.prog 16 #[.string ⟨#[100, 104, 99, 112, 118, 54]⟩, v] w fun e w' => e = .returned (.bool true) ∧ Below w.heap.size w w' := by
  refine again_c (p := true) (by kernel_rfl) (specOf_dhcp (fun h => sDhcp_short h) (fun h => helpOf_dhcp hb hlim h)) (fun h4 l hd => ?_) (fun h4 l hd h5 _ => write_dhcp hb h4 hd h5) alive_c h
  obtain ⟨x0, x1, x2, x3, rest, ps, hbs, h⟩ := sDhcp_cases hd
  refine plain_dhcp (by rw [hbs]; simp) (fun hx => ?_)
  rw [hbs] at hx
  simp only [List.headD_cons] at hx
  rcases h with ⟨h1, _⟩ | ⟨_, h2, _⟩
  · exact absurd hx h1
  · exact h2
end Go.Proofs.YtaejicpdaldpiaaGreat
