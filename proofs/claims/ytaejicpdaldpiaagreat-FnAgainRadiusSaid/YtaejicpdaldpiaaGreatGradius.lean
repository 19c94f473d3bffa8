/-
  laws.again of radius.
-/
import Derived.Test.YtaejicpdaldpiaaGreatAgain
import Derived.Test.YtaejicpdaldpiaaGreatAlive
import Derived.Test.YtaejicpdaldpiaaGreatS2radius
import Derived.Test.YtaejicpdaldpiaaGreatPdhcp
import Derived.Test.YtaejicpdaldpiaaGreatWradius
import Derived.Test.YtaejicpdaldpiaaGreatMradius
namespace Go.Proofs.YtaejicpdaldpiaaGreat
open Go Go.RowKit

set_option maxRecDepth 100000 in
set_option maxHeartbeats 1000000 in
theorem again_rad {bs : List Int} {l0 : Lay} (h4 : bs.length ≤ 400) (h5 : l0.parts.length ≤ 50) (hs : SpecOf (.string ⟨#[114, 97, 100, 105, 117, 115]⟩) bs (some (some l0))) (hp : PlainOf (.string ⟨#[114, 97, 100, 105, 117, 115]⟩) bs true)
    (hw : WriteOf (.string ⟨#[114, 97, 100, 105, 117, 115]⟩) ⟨l0.nums, l0.data, l0.parts, []⟩ bs) (ha : AliveOf) {v : Value} {w : World} (h : SB w (fun _ => True) v bs) :
    Calls Tryz.prog 16 #[.string ⟨#[114, 97, 100, 105, 117, 115]⟩, v] w fun e w' => e = .returned (.bool true) ∧ Below w.heap.size w w' := by
  have HH := Lib.hid h
  have HS := Lib.hid hs
  obtain ⟨p0, c0, rfl, _⟩ := h
  clear hs
  have HP := Lib.hid hp
  have HW := Lib.hid hw
  have HA := Lib.hid ha
  clear hp hw ha
  have h4' : ¬ ((400 : Int) < (bs.length : Int)) := by omega
  have d4 : decide ((400 : Int) < (bs.length : Int)) = false := by simp <;> omega
  have h5' : ¬ ((50 : Int) < (l0.parts.length : Int)) := by omega
  have d5 : decide ((50 : Int) < (l0.parts.length : Int)) = false := by simp <;> omega
  go_enter Tryz.func16, Tryz.ntmps16
  go_wp2_with fail
  refine (HS.out _ _ HH.out).mono ?_
  rintro e1 w1 ⟨hb1, u, l, hu, hD⟩
  obtain ⟨p1, n1, c1, p2, n2, c2, p3, n3, c3, p4, n4, c4, rfl, rfl⟩ := hu.agg
  have HU := Lib.hid hu
  have HB := Lib.hid hb1
  have L1 := hb1.size
  clear hu hb1
  rcases hD with ⟨hD, -⟩ | ⟨hD, -⟩ | ⟨hD, rfl⟩
  cases hD
  cases hD
  obtain rfl := Option.some.inj (Option.some.inj hD)
  clear hD
  go_wp2_with fail
  refine (HP.out _ _ (HH.out.keeps ((Keeps.of_below HB.out).alloc _))).mono ?_
  rintro e2 w2 ⟨rfl, hb2⟩
  obtain ⟨r0, r1, r2, r3⟩ := cells4 hb2
  obtain ⟨f0, f1, f2, f3⟩ := frozen4 hb2
  have lw := size_new hb2
  have h1 := HB.out
  have h2 : Below w.heap.size w w2 := below_next (h1.alloc (by omega) _) hb2 (by simp <;> omega)
  have hk2 : Keeps (fun b => b < w1.heap.size) w1 w2 := ((Keeps.refl _ w1).alloc _).trans (Keeps.of_below hb2)
  have HK2 := Lib.hid hk2
  have H2 := Lib.hid h2
  have L2 := h2.size
  have HV : Hid (LayOn w1 (fun b => b < w1.heap.size) (.agg #[.slice p1 n1 c1, .slice p2 n2 c2, .slice p3 l0.parts.length c3, .slice none 0 0]) ⟨l0.nums, l0.data, l0.parts, []⟩) := by
    obtain ⟨a, b, c, d, he, g1, g2, g3, -⟩ := HU.out
    simp only [Value.agg.injEq, Array.mk.injEq, List.cons.injEq, and_true] at he
    obtain ⟨rfl, rfl, rfl, rfl⟩ := he
    exact ⟨_, _, _, _, rfl, g1.imp (fun b hb _ => hb), g2.imp (fun b hb _ => hb), g3.imp (fun b hb _ => hb), SB.nil _ _⟩
  clear h1 h2 hb2 hk2
  go_wp2_with fail
  refine (HW.out _ _ ((LayOn.keeps HV.out (HK2.out.trans (by repeat (first | with_reducible assumption | with_reducible exact Keeps.refl _ _ | with_reducible refine Keeps.drew ?_ | with_reducible refine Keeps.drewN ?_ _ | with_reducible refine Keeps.alloc ?_ _ | with_reducible refine Keeps.setCell ?_ ?_ _ | omega | focus (simp; done) | focus (simp; omega))))).imp (fun _ _ _ => trivial))).mono ?_
  rintro e3 w3 ⟨hb3, q5, n5, c5, rfl, hq⟩
  have HQ := Lib.hid hq
  have h2 := H2.out
  have H3 := Lib.hid (show Below w.heap.size w w3 from below_next (by repeat (first | with_reducible assumption | with_reducible refine Below.drew ?_ | with_reducible refine below_drewN' ?_ _ | with_reducible refine Below.alloc ?_ ?_ _ | with_reducible refine Below.setCell ?_ ?_ _ | with_reducible exact Nat.le_refl _ | omega | focus (simp; done) | focus (simp; omega))) hb3 (by first | omega | (simp; omega)))
  have HK3 := Lib.hid (show Keeps (fun b => b < w1.heap.size) w1 w3 from (HK2.out.trans (by repeat (first | with_reducible assumption | with_reducible exact Keeps.refl _ _ | with_reducible refine Keeps.drew ?_ | with_reducible refine Keeps.drewN ?_ _ | with_reducible refine Keeps.alloc ?_ _ | with_reducible refine Keeps.setCell ?_ ?_ _ | omega | focus (simp; done) | focus (simp; omega)))).trans (Keeps.of_below hb3))
  have L3 := hb3.size
  simp only [World.size_setCell] at L3
  clear h2 hb3 hq
  go_wp2_with fail
  refine (bytesEqual_c HQ.out (((HH.out.keeps (Keeps.of_below HB.out)).imp (fun b hb _ => hb : ∀ b, b < w1.heap.size → True → b < w1.heap.size)).keeps HK3.out)).mono ?_
  rintro e4 w4 ⟨rfl, rfl⟩
  go_wp2_with fail
  refine (HA.out _).mono ?_
  rintro e5 w5 ⟨rfl, hb5⟩
  have HB5 := Lib.hid hb5
  clear hb5
  go_wp2_with fail
  refine bodyPost_ret (v := .bool true) (by simp only [results, Tryz.results16]; go_simp) rfl ⟨rfl, ?_⟩
  have h3 := H3.out
  exact below_next (by repeat (first | with_reducible assumption | with_reducible refine Below.drew ?_ | with_reducible refine below_drewN' ?_ _ | with_reducible refine Below.alloc ?_ ?_ _ | with_reducible refine Below.setCell ?_ ?_ _ | with_reducible exact Nat.le_refl _ | omega | focus (simp; done) | focus (simp; omega))) HB5.out (by first | omega | (simp; omega))

/-- Attributes that are read are written as they were. -/
theorem dAttrs_back : ∀ (m : Nat) (l : List Int) (ps : List (List Int × List Int)), l.length ≤ m → (∀ z ∈ l, 0 ≤ z ∧ z ≤ 255) → dAttrs l = some (some ps) → (∀ p ∈ ps, OkAttr p ∧ 0 < p.2.length) ∧ ps.flatMap aB = l := by
  intro m
  induction m with
  | zero =>
    intro l ps hl _ h
    obtain rfl := List.eq_nil_of_length_eq_zero (by omega : l.length = 0)
    rw [dAttrs_nil] at h
    simp at h
    subst h
    simp
  | succ m ih =>
    intro l ps hl hb h
    match l, h, hl, hb with
    | [], h, _, _ =>
      rw [dAttrs_nil] at h
      simp at h
      subst h
      simp
    | [a], h, _, _ =>
      rw [dAttrs_one] at h
      simp at h
    | a :: b :: rest, h, hl, hb =>
      have ba := hb a (by simp)
      have bb := hb b (by simp)
      by_cases hx : b < 2 ∨ rest.length + 2 < b.toNat
      · rw [dAttrs_bad hx] at h
        simp at h
      · by_cases h2 : b = 2
        · subst h2
          rw [dAttrs_open] at h
          cases h
        · obtain ⟨K, rfl⟩ : ∃ K : Nat, b = (K : Int) + 2 := ⟨(b - 2).toNat, by omega⟩
          have hK : K ≤ rest.length := by omega
          rw [dAttrs_more (K := K) rfl (by omega) hK] at h
          cases hr : dAttrs (rest.drop K) with
          | none => rw [hr] at h; cases h
          | some x =>
            cases x with
            | none => rw [hr] at h; simp at h
            | some qs =>
              rw [hr] at h
              simp at h
              obtain ⟨g1, g2⟩ := ih _ qs (by simp at hl ⊢; omega) (fun z hz => hb z (by have := List.mem_of_mem_drop hz; simp [this])) hr
              subst h
              have hl2 : (rest.take K).length = K := by rw [List.length_take]; omega
              refine ⟨fun p hp => ?_, ?_⟩
              · rcases List.mem_cons.1 hp with rfl | hp
                · exact ⟨⟨_, _, rfl, by omega, by rw [hl2], by rw [hl2]; omega⟩, by rw [hl2]; omega⟩
                · exact g1 p hp
              · rw [List.flatMap_cons, g2]
                simp [aB]

set_option maxHeartbeats 4000000 in
theorem write_radius {bs : List Int} (hb : ∀ z ∈ bs, 0 ≤ z ∧ z ≤ 255) (hl : bs.length ≤ 400) {l : Lay} (hd : sRadius bs = some (some l)) (h50 : l.parts.length ≤ 50) : WriteOf (.string ⟨#[114, 97, 100, 105, 117, 115]⟩) ⟨l.nums, l.data, l.parts, []⟩ bs := by
  rcases sRadius_cases hd with ⟨-, h⟩ | ⟨x0, x1, x2, x3, rest, q, hbs, h20, hx, hq, h⟩
  · cases h
  · cases q with
    | none => cases h
    | some ps =>
      obtain rfl := Option.some.inj h
      have h0 := hb x0 (by rw [hbs]; simp)
      have h1 := hb x1 (by rw [hbs]; simp)
      have h2 := hb x2 (by rw [hbs]; simp)
      have h3 := hb x3 (by rw [hbs]; simp)
      obtain ⟨hok, hfl⟩ := dAttrs_back _ (bs.drop 20) ps (Nat.le_refl _) (fun z hz => hb z (List.mem_of_mem_drop hz)) hq
      have la : ((bs.drop 4).take 16).length = 16 := by rw [List.length_take, List.length_drop]; omega
      have e : (x0 :: x1 :: x2 :: x3 :: (bs.drop 4).take 16) ++ bs.drop 20 = bs := by
        have e1 : bs.drop 4 = (bs.drop 4).take 16 ++ bs.drop 20 := by
          rw [show bs.drop 20 = (bs.drop 4).drop 16 by rw [List.drop_drop], List.take_append_drop]
        have e3 : bs = x0 :: x1 :: x2 :: x3 :: bs.drop 4 := by rw [hbs]; rfl
        simp only [List.cons_append]
        rw [← e1, ← e3]
      have := write_c (made_radius (a0 := x0) (b0 := x1) (n0 := x2 * 256 + x3) (auth := (bs.drop 4).take 16) (ps := ps) (pay := []) h0 h1 (by omega) la h50 (fun p hp => (hok p hp).1))
        (ser_radius (a0 := x0) (b0 := x1) (l0 := x2) (l1 := x3) (auth := (bs.drop 4).take 16) h2 h3 la (fun p hp => (hok p hp).1) (fun p hp => (hok p hp).2) h50) m_ser_radius c_ser_radius (by simp) (fun d hd => by simp only [List.mem_cons, List.not_mem_nil, or_false] at hd; subst hd; omega) (fun p hp => by obtain ⟨⟨_, _, _, _, _, h⟩, _⟩ := hok p hp; omega) h50 (by rw [hfl, e]; omega)
      rw [hfl, e, hx] at this
      exact this

theorem again_radius {bs : List Int} (hb : ∀ z ∈ bs, 0 ≤ z ∧ z ≤ 255) {v : Value} {w : World} (h : SB w (fun _ => True) v bs) (hlim : bs.length ≤ 2147483648) :
    Calls Tryz.prog 16 #[.string ⟨#[114, 97, 100, 105, 117, 115]⟩, v] w fun e w' => e = .returned (.bool true) ∧ Below w.heap.size w w' := by
  have hs := specOf_radius (fun h => sRadius_short h) (fun h => helpOf_radius hb hlim h)
  by_cases h4 : bs.length ≤ 400
  · rcases hD : sRadius bs with _ | (_ | l0)
    · rw [hD] at hs
      exact again_open h4 hs h
    · rw [hD] at hs
      exact again_none h4 hs h
    · rw [hD] at hs
      by_cases h5 : l0.parts.length ≤ 50
      · exact again_rad h4 h5 hs plain_radius (write_radius hb h4 hD h5) alive_c h
      · exact again_many h4 h5 hs h
  · exact again_long h4 hs h
end Go.Proofs.YtaejicpdaldpiaaGreat
