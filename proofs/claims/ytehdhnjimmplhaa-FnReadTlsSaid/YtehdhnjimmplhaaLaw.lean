/-
  laws.alive, laws.read of any kind whose two readers are known.
-/
import Derived.Test.YtehdhnjimmplhaaRead
import Derived.Test.YtehdhnjimmplhaaSame
namespace Go.Proofs.Ytehdhnjimmplhaa
open Go Go.RowKit

/-- What spec.Read makes of bytes: D = none: nothing is said; some none: there is no such layer. -/
def SpecOf (K : Value) (bs : List Int) (D : Option (Option Lay)) : Prop :=
  ∀ (v : Value) (w : World), SB w (fun _ => True) v bs → Calls Try.prog 5 #[K, v] w fun e w' =>
    Below w.heap.size w w' ∧ ∃ u l, LayIs w' u l ∧ ((D = none ∧ ∃ ok, e = .returned (.tuple #[u, .bool ok, .bool false])) ∨ (D = some none ∧ e = .returned (.tuple #[u, .bool false, .bool true])) ∨
      (D = some (some l) ∧ e = .returned (.tuple #[u, .bool true, .bool true])))

def AliveOf : Prop := ∀ w : World, Calls Try.prog 8 #[] w fun e w' => e = .returned (.bool true) ∧ Below w.heap.size w w'

theorem b01_top {x : Int} (h : 0 ≤ x ∧ x ≤ 255) : b01 (decide (128 ≤ x)) = x / 128 := by
  by_cases h1 : 128 ≤ x
  · rw [decide_eq_true h1]
    simp only [b01]
    omega
  · rw [decide_eq_false h1]
    simp only [b01]
    omega

theorem layIs_zlay (w : World) : LayIs w zlay ⟨[], [], [], []⟩ := ⟨_, _, _, _, rfl, SN.nil _ _, SD.nil _ _, SP.nil _ _, SB.nil _ _⟩

theorem below_next {B : Nat} {a w w' : World} (h : Below B a w) (k : Below w.heap.size w w') (hB : B ≤ w.heap.size) : Below B a w' := h.trans (k.mono hB)

set_option maxRecDepth 100000 in
set_option maxHeartbeats 1000000 in
theorem law_c {K : Value} {bs : List Int} {D : Option (Option Lay)} (hs : SpecOf K bs D) (hi : bs.length ≤ 400 → ∀ r, D = some r → (∀ l, r = some l → l.parts.length ≤ 50) → ImplOf K bs r) (ha : AliveOf)
    {v : Value} {w : World} (h : SB w (fun _ => True) v bs) :
    Calls Try.prog 4 #[K, v] w fun e w' => e = .returned (.bool true) ∧ Below w.heap.size w w' := by
  have HH := Lib.hid h
  have HS := Lib.hid hs
  have HA := Lib.hid ha
  obtain ⟨p, c, rfl, _⟩ := h
  clear hs ha
  by_cases h4 : bs.length ≤ 400
  · have h4' : ¬ ((400 : Int) < (bs.length : Int)) := by omega
    replace hi := hi h4
    rcases D with _ | (_ | l0)
    · clear hi
      go_enter Try.func4, Try.ntmps4
      go_wp2_with (go_at_call 5; refine (HS.out _ _ HH.out).mono ?_; rintro e1 w1 ⟨hb1, u, l, hu, hD⟩; obtain ⟨p1, n1, c1, p2, n2, c2, p3, n3, c3, p4, n4, c4, rfl, rfl⟩ := hu.agg; have HU := Lib.hid hu; have HB := Lib.hid hb1; have L1 := hb1.size; clear hu hb1; obtain ⟨-, ok, rfl⟩ | ⟨hD, -⟩ | ⟨hD, -⟩ := hD; rotate_left; cases hD; cases hD)
      refine bodyPost_ret (v := .bool true) (by simp only [results, Try.results4]; go_simp) rfl ⟨rfl, ?_⟩
      have h1 := HB.out
      exact (by repeat (first | with_reducible assumption | with_reducible refine Below.drew ?_ | with_reducible refine below_drewN' ?_ _ | with_reducible refine Below.alloc ?_ ?_ _ | with_reducible refine Below.setCell ?_ ?_ _ | with_reducible exact Nat.le_refl _ | omega | focus (simp; done) | focus (simp; omega)))
    · have HI := Lib.hid (hi _ rfl (fun l h => (by cases h)))
      clear hi
      go_enter Try.func4, Try.ntmps4
      go_wp2_with (first | (go_at_call 5; refine (HS.out _ _ HH.out).mono ?_; rintro e1 w1 ⟨hb1, u, l, hu, hD⟩; obtain ⟨p1, n1, c1, p2, n2, c2, p3, n3, c3, p4, n4, c4, rfl, rfl⟩ := hu.agg; have HU := Lib.hid hu; have HB := Lib.hid hb1; have L1 := hb1.size; clear hu hb1; obtain ⟨hD, -⟩ | ⟨-, rfl⟩ | ⟨hD, -⟩ := hD; cases hD; rotate_left; cases hD) | (go_at_call 6; refine (HI.out _ _ (HH.out.keeps ((Keeps.of_below HB.out).alloc _))).mono ?_; rintro e2 w2 ⟨hb2, ⟨hr, he⟩ | ⟨l2, u2, hr, he, hu2⟩⟩; rotate_left; cases hr; subst he; have h1 := HB.out; have h2 : Below w.heap.size w w2 := below_next (h1.alloc (by omega) _) hb2 (by simp; omega); have L2 := h2.size; have hk2 : Keeps (fun _ => True) w1 w2 := ((Keeps.refl _ w1).alloc _).trans (Keeps.of_below hb2); obtain ⟨r0, r1, r2, r3⟩ := cells4 hb2; have lw := size_new hb2; have H2 := Lib.hid h2; have HK2 := Lib.hid hk2; clear h1 h2 hb2 hk2) | (go_at_call 8; refine (HA.out _).mono ?_; rintro e4 w4 ⟨rfl, hb4⟩; have HB4 := Lib.hid hb4; clear hb4))
      all_goals refine bodyPost_ret (v := .bool true) (by simp only [results, Try.results4]; go_simp) rfl ⟨rfl, ?_⟩
      · have h1 := HB.out
        exact (by repeat (first | with_reducible assumption | with_reducible refine Below.drew ?_ | with_reducible refine below_drewN' ?_ _ | with_reducible refine Below.alloc ?_ ?_ _ | with_reducible refine Below.setCell ?_ ?_ _ | with_reducible exact Nat.le_refl _ | omega | focus (simp; done) | focus (simp; omega)))
      · have h2 := H2.out
        exact below_next (by repeat (first | with_reducible assumption | with_reducible refine Below.drew ?_ | with_reducible refine below_drewN' ?_ _ | with_reducible refine Below.alloc ?_ ?_ _ | with_reducible refine Below.setCell ?_ ?_ _ | with_reducible exact Nat.le_refl _ | omega | focus (simp; done) | focus (simp; omega))) HB4.out (by first | omega | (simp; omega))
    · by_cases h5 : l0.parts.length ≤ 50
      · have h5' : ¬ ((50 : Int) < (l0.parts.length : Int)) := by omega
        have HI := Lib.hid (hi _ rfl (fun l h => (by cases h; exact h5)))
        clear hi
        go_enter Try.func4, Try.ntmps4
        go_wp2_with (first | (go_at_call 5; refine (HS.out _ _ HH.out).mono ?_; rintro e1 w1 ⟨hb1, u, l, hu, hD⟩; obtain ⟨p1, n1, c1, p2, n2, c2, p3, n3, c3, p4, n4, c4, rfl, rfl⟩ := hu.agg; have HU := Lib.hid hu; have HB := Lib.hid hb1; have L1 := hb1.size; clear hu hb1; obtain ⟨hD, -⟩ | ⟨hD, -⟩ | ⟨hD, rfl⟩ := hD; cases hD; cases hD; obtain rfl := Option.some.inj (Option.some.inj hD); clear hD) | (go_at_call 6; refine (HI.out _ _ (HH.out.keeps ((Keeps.of_below HB.out).alloc _))).mono ?_; rintro e2 w2 ⟨hb2, ⟨hr, he⟩ | ⟨l2, u2, hr, he, hu2⟩⟩; cases hr; obtain rfl := Option.some.inj hr; obtain ⟨q1, m1, d1, q2, m2, d2, q3, m3, d3, q4, m4, d4, rfl, hm3⟩ := hu2.agg; clear hm3 hr; have HU2 := Lib.hid hu2; clear hu2; subst he; have h1 := HB.out; have h2 : Below w.heap.size w w2 := below_next (h1.alloc (by omega) _) hb2 (by simp; omega); have L2 := h2.size; have hk2 : Keeps (fun _ => True) w1 w2 := ((Keeps.refl _ w1).alloc _).trans (Keeps.of_below hb2); obtain ⟨r0, r1, r2, r3⟩ := cells4 hb2; have lw := size_new hb2; have H2 := Lib.hid h2; have HK2 := Lib.hid hk2; clear h1 h2 hb2 hk2) | (go_at_call 7; have hk := HK2.out; refine (same_c (l := l0) (HU2.out.keeps (by repeat (first | with_reducible assumption | with_reducible exact Keeps.refl _ _ | with_reducible refine Keeps.drew ?_ | with_reducible refine Keeps.drewN ?_ _ | with_reducible refine Keeps.alloc ?_ _ | with_reducible refine Keeps.setCell ?_ ?_ _ | omega | focus (simp; done) | focus (simp; omega)))) (HU.out.keeps (by repeat (first | with_reducible assumption | with_reducible exact Keeps.refl _ _ | with_reducible refine Keeps.drew ?_ | with_reducible refine Keeps.drewN ?_ _ | with_reducible refine Keeps.alloc ?_ _ | with_reducible refine Keeps.setCell ?_ ?_ _ | omega | focus (simp; done) | focus (simp; omega))))).mono ?_; rintro e3 w3 ⟨rfl, hb3⟩; have h2 := H2.out; have h3 : Below w.heap.size w w3 := below_next (by repeat (first | with_reducible assumption | with_reducible refine Below.drew ?_ | with_reducible refine below_drewN' ?_ _ | with_reducible refine Below.alloc ?_ ?_ _ | with_reducible refine Below.setCell ?_ ?_ _ | with_reducible exact Nat.le_refl _ | omega | focus (simp; done) | focus (simp; omega))) hb3 (by simp; omega); have H3 := Lib.hid h3; have L3 := h3.size; clear h2 h3 hb3 hk) | (go_at_call 8; refine (HA.out _).mono ?_; rintro e4 w4 ⟨rfl, hb4⟩; have HB4 := Lib.hid hb4; clear hb4))
        refine bodyPost_ret (v := .bool true) (by simp only [results, Try.results4]; go_simp) rfl ⟨rfl, ?_⟩
        have h3 := H3.out
        exact below_next (by repeat (first | with_reducible assumption | with_reducible refine Below.drew ?_ | with_reducible refine below_drewN' ?_ _ | with_reducible refine Below.alloc ?_ ?_ _ | with_reducible refine Below.setCell ?_ ?_ _ | with_reducible exact Nat.le_refl _ | omega | focus (simp; done) | focus (simp; omega))) HB4.out (by first | omega | (simp; omega))
      · have h5' : ((50 : Int) < (l0.parts.length : Int)) := by omega
        clear hi
        go_enter Try.func4, Try.ntmps4
        go_wp2_with (go_at_call 5; refine (HS.out _ _ HH.out).mono ?_; rintro e1 w1 ⟨hb1, u, l, hu, hD⟩; obtain ⟨p1, n1, c1, p2, n2, c2, p3, n3, c3, p4, n4, c4, rfl, rfl⟩ := hu.agg; have HU := Lib.hid hu; have HB := Lib.hid hb1; have L1 := hb1.size; clear hu hb1; obtain ⟨hD, -⟩ | ⟨hD, -⟩ | ⟨hD, rfl⟩ := hD; cases hD; cases hD; obtain rfl := Option.some.inj (Option.some.inj hD); clear hD)
        refine bodyPost_ret (v := .bool true) (by simp only [results, Try.results4]; go_simp) rfl ⟨rfl, ?_⟩
        have h1 := HB.out
        exact (by repeat (first | with_reducible assumption | with_reducible refine Below.drew ?_ | with_reducible refine below_drewN' ?_ _ | with_reducible refine Below.alloc ?_ ?_ _ | with_reducible refine Below.setCell ?_ ?_ _ | with_reducible exact Nat.le_refl _ | omega | focus (simp; done) | focus (simp; omega)))
  · have h4' : ((400 : Int) < (bs.length : Int)) := by omega
    clear hi
    go_enter Try.func4, Try.ntmps4
    go_wp2_with (go_at_call 5; refine (HS.out _ _ HH.out).mono ?_; rintro e1 w1 ⟨hb1, u, l, hu, hD⟩; obtain ⟨p1, n1, c1, p2, n2, c2, p3, n3, c3, p4, n4, c4, rfl, rfl⟩ := hu.agg; have HU := Lib.hid hu; have HB := Lib.hid hb1; have L1 := hb1.size; clear hu hb1; obtain ⟨-, ok, rfl⟩ | ⟨-, rfl⟩ | ⟨-, rfl⟩ := hD)
    all_goals
      refine bodyPost_ret (v := .bool true) (by simp only [results, Try.results4]; go_simp) rfl ⟨rfl, ?_⟩
      have h1 := HB.out
      exact (by repeat (first | with_reducible assumption | with_reducible refine Below.drew ?_ | with_reducible refine below_drewN' ?_ _ | with_reducible refine Below.alloc ?_ ?_ _ | with_reducible refine Below.setCell ?_ ?_ _ | with_reducible exact Nat.le_refl _ | omega | focus (simp; done) | focus (simp; omega)))
end Go.Proofs.Ytehdhnjimmplhaa
