/-
  laws.again of any kind whose reader, whose plain bytes and whose writer are known.
-/
import Derived.Test.YtmpifdanfnebpaaGreatLaw
import Derived.Test.YtmpifdanfnebpaaGreatSame
import Derived.Test.YtmpifdanfnebpaaGreatKind
namespace Go.Proofs.YtmpifdanfnebpaaGreat
open Go Go.RowKit

set_option maxRecDepth 100000 in
set_option maxHeartbeats 1000000 in
theorem again_open {k : ByteArray} {bs : List Int} (h4 : bs.length ≤ 400) (hs : SpecOf (.string k) bs none)
    {v : Value} {w : World} (h : SB w (fun _ => True) v bs) :
    Calls Tryz.prog 5 #[.string k, v] w fun e w' => e = .returned (.bool true) ∧ Below w.heap.size w w' := by
  have HH := Lib.hid h
  have HS := Lib.hid hs
  obtain ⟨p0, c0, rfl, _⟩ := h
  clear hs
  have h4' : ¬ ((400 : Int) < (bs.length : Int)) := by omega
  have d4 : decide ((400 : Int) < (bs.length : Int)) = false := by simp <;> omega
  go_enter Tryz.func5, Tryz.ntmps5
  go_wp2_with fail
  refine (HS.out _ _ HH.out).mono ?_
  rintro e1 w1 ⟨hb1, u, l, hu, hD⟩
  obtain ⟨p1, n1, c1, p2, n2, c2, p3, n3, c3, p4, n4, c4, rfl, rfl⟩ := hu.agg
  have HU := Lib.hid hu
  have HB := Lib.hid hb1
  have L1 := hb1.size
  clear hu hb1
  rcases hD with ⟨-, ok, rfl⟩ | ⟨hD, -⟩ | ⟨hD, -⟩
  rotate_left
  cases hD
  cases hD
  go_wp2_with fail
  refine bodyPost_ret (v := .bool true) (by simp only [results, Tryz.results5]; go_simp) rfl ⟨rfl, ?_⟩
  have h1 := HB.out
  exact (by repeat (first | with_reducible assumption | with_reducible refine Below.drew ?_ | with_reducible refine below_drewN' ?_ _ | with_reducible refine Below.alloc ?_ ?_ _ | with_reducible refine Below.setCell ?_ ?_ _ | with_reducible exact Nat.le_refl _ | omega | focus (simp; done) | focus (simp; omega)))

set_option maxRecDepth 100000 in
set_option maxHeartbeats 1000000 in
theorem again_none {k : ByteArray} {bs : List Int} (h4 : bs.length ≤ 400) (hs : SpecOf (.string k) bs (some none))
    {v : Value} {w : World} (h : SB w (fun _ => True) v bs) :
    Calls Tryz.prog 5 #[.string k, v] w fun e w' => e = .returned (.bool true) ∧ Below w.heap.size w w' := by
  have HH := Lib.hid h
  have HS := Lib.hid hs
  obtain ⟨p0, c0, rfl, _⟩ := h
  clear hs
  have h4' : ¬ ((400 : Int) < (bs.length : Int)) := by omega
  have d4 : decide ((400 : Int) < (bs.length : Int)) = false := by simp <;> omega
  go_enter Tryz.func5, Tryz.ntmps5
  go_wp2_with fail
  refine (HS.out _ _ HH.out).mono ?_
  rintro e1 w1 ⟨hb1, u, l, hu, hD⟩
  obtain ⟨p1, n1, c1, p2, n2, c2, p3, n3, c3, p4, n4, c4, rfl, rfl⟩ := hu.agg
  have HU := Lib.hid hu
  have HB := Lib.hid hb1
  have L1 := hb1.size
  clear hu hb1
  rcases hD with ⟨hD, -⟩ | ⟨-, rfl⟩ | ⟨hD, -⟩
  cases hD
  rotate_left
  cases hD
  go_wp2_with fail
  refine bodyPost_ret (v := .bool true) (by simp only [results, Tryz.results5]; go_simp) rfl ⟨rfl, ?_⟩
  have h1 := HB.out
  exact (by repeat (first | with_reducible assumption | with_reducible refine Below.drew ?_ | with_reducible refine below_drewN' ?_ _ | with_reducible refine Below.alloc ?_ ?_ _ | with_reducible refine Below.setCell ?_ ?_ _ | with_reducible exact Nat.le_refl _ | omega | focus (simp; done) | focus (simp; omega)))

set_option maxRecDepth 100000 in
set_option maxHeartbeats 1000000 in
theorem again_long {k : ByteArray} {bs : List Int} {D : Option (Option Lay)} (h4 : ¬ bs.length ≤ 400) (hs : SpecOf (.string k) bs D)
    {v : Value} {w : World} (h : SB w (fun _ => True) v bs) :
    Calls Tryz.prog 5 #[.string k, v] w fun e w' => e = .returned (.bool true) ∧ Below w.heap.size w w' := by
  have HH := Lib.hid h
  have HS := Lib.hid hs
  obtain ⟨p0, c0, rfl, _⟩ := h
  clear hs
  have h4' : ((400 : Int) < (bs.length : Int)) := by omega
  have d4 : decide ((400 : Int) < (bs.length : Int)) = true := by simp <;> omega
  go_enter Tryz.func5, Tryz.ntmps5
  go_wp2_with fail
  refine (HS.out _ _ HH.out).mono ?_
  rintro e1 w1 ⟨hb1, u, l, hu, hD⟩
  obtain ⟨p1, n1, c1, p2, n2, c2, p3, n3, c3, p4, n4, c4, rfl, rfl⟩ := hu.agg
  have HU := Lib.hid hu
  have HB := Lib.hid hb1
  have L1 := hb1.size
  clear hu hb1
  rcases hD with ⟨-, ok, rfl⟩ | ⟨-, rfl⟩ | ⟨-, rfl⟩
  all_goals go_wp2_with fail
  all_goals refine bodyPost_ret (v := .bool true) (by simp only [results, Tryz.results5]; go_simp) rfl ⟨rfl, ?_⟩
  all_goals have h1 := HB.out
  all_goals exact (by repeat (first | with_reducible assumption | with_reducible refine Below.drew ?_ | with_reducible refine below_drewN' ?_ _ | with_reducible refine Below.alloc ?_ ?_ _ | with_reducible refine Below.setCell ?_ ?_ _ | with_reducible exact Nat.le_refl _ | omega | focus (simp; done) | focus (simp; omega)))

set_option maxRecDepth 100000 in
set_option maxHeartbeats 1000000 in
theorem again_many {k : ByteArray} {bs : List Int} {l0 : Lay} (h4 : bs.length ≤ 400) (h5 : ¬ l0.parts.length ≤ 50) (hs : SpecOf (.string k) bs (some (some l0)))
    {v : Value} {w : World} (h : SB w (fun _ => True) v bs) :
    Calls Tryz.prog 5 #[.string k, v] w fun e w' => e = .returned (.bool true) ∧ Below w.heap.size w w' := by
  have HH := Lib.hid h
  have HS := Lib.hid hs
  obtain ⟨p0, c0, rfl, _⟩ := h
  clear hs
  have h4' : ¬ ((400 : Int) < (bs.length : Int)) := by omega
  have d4 : decide ((400 : Int) < (bs.length : Int)) = false := by simp <;> omega
  have h5' : ((50 : Int) < (l0.parts.length : Int)) := by omega
  have d5 : decide ((50 : Int) < (l0.parts.length : Int)) = true := by simp <;> omega
  go_enter Tryz.func5, Tryz.ntmps5
  go_wp2_with fail
  refine (HS.out _ _ HH.out).mono ?_
  rintro e1 w1 ⟨hb1, u, l, hu, hD⟩
  obtain ⟨p1, n1, c1, p2, n2, c2, p3, n3, c3, p4, n4, c4, rfl, rfl⟩ := hu.agg
  have HU := Lib.hid hu
  have HB := Lib.hid hb1
  have L1 := hb1.size
  clear hu hb1
  rcases hD with ⟨hD, -⟩ | ⟨hD, -⟩ | ⟨hD, rfl⟩
  cases hD
  cases hD
  obtain rfl := Option.some.inj (Option.some.inj hD)
  clear hD
  go_wp2_with fail
  refine bodyPost_ret (v := .bool true) (by simp only [results, Tryz.results5]; go_simp) rfl ⟨rfl, ?_⟩
  have h1 := HB.out
  exact (by repeat (first | with_reducible assumption | with_reducible refine Below.drew ?_ | with_reducible refine below_drewN' ?_ _ | with_reducible refine Below.alloc ?_ ?_ _ | with_reducible refine Below.setCell ?_ ?_ _ | with_reducible exact Nat.le_refl _ | omega | focus (simp; done) | focus (simp; omega)))

set_option maxRecDepth 100000 in
set_option maxHeartbeats 1000000 in
theorem again_odd {k : ByteArray} {bs : List Int} {l0 : Lay} (h4 : bs.length ≤ 400) (h5 : l0.parts.length ≤ 50) (hs : SpecOf (.string k) bs (some (some l0))) (hp : PlainOf (.string k) bs false)
    {v : Value} {w : World} (h : SB w (fun _ => True) v bs) :
    Calls Tryz.prog 5 #[.string k, v] w fun e w' => e = .returned (.bool true) ∧ Below w.heap.size w w' := by
  have HH := Lib.hid h
  have HS := Lib.hid hs
  obtain ⟨p0, c0, rfl, _⟩ := h
  clear hs
  have HP := Lib.hid hp
  clear hp
  have h4' : ¬ ((400 : Int) < (bs.length : Int)) := by omega
  have d4 : decide ((400 : Int) < (bs.length : Int)) = false := by simp <;> omega
  have h5' : ¬ ((50 : Int) < (l0.parts.length : Int)) := by omega
  have d5 : decide ((50 : Int) < (l0.parts.length : Int)) = false := by simp <;> omega
  go_enter Tryz.func5, Tryz.ntmps5
  go_wp2_with fail
  refine (HS.out _ _ HH.out).mono ?_
  rintro e1 w1 ⟨hb1, u, l, hu, hD⟩
  obtain ⟨p1, n1, c1, p2, n2, c2, p3, n3, c3, p4, n4, c4, rfl, rfl⟩ := hu.agg
  have HU := Lib.hid hu
  have HB := Lib.hid hb1
  have L1 := hb1.size
  clear hu hb1
  rcases hD with ⟨hD, -⟩ | ⟨hD, -⟩ | ⟨hD, rfl⟩
  cases hD
  cases hD
  obtain rfl := Option.some.inj (Option.some.inj hD)
  clear hD
  go_wp2_with fail
  refine (HP.out _ _ (HH.out.keeps ((Keeps.of_below HB.out).alloc _))).mono ?_
  rintro e2 w2 ⟨rfl, hb2⟩
  obtain ⟨r0, r1, r2, r3⟩ := cells4 hb2
  obtain ⟨f0, f1, f2, f3⟩ := frozen4 hb2
  have lw := size_new hb2
  have h1 := HB.out
  have h2 : Below w.heap.size w w2 := below_next (h1.alloc (by omega) _) hb2 (by simp <;> omega)
  have hk2 : Keeps (fun _ => True) w1 w2 := ((Keeps.refl _ w1).alloc _).trans (Keeps.of_below hb2)
  have HK2 := Lib.hid hk2
  have H2 := Lib.hid h2
  have L2 := h2.size
  clear h1 h2 hb2 hk2
  go_wp2_with fail
  refine bodyPost_ret (v := .bool true) (by simp only [results, Tryz.results5]; go_simp) rfl ⟨rfl, ?_⟩
  have h1 := H2.out
  exact (by repeat (first | with_reducible assumption | with_reducible refine Below.drew ?_ | with_reducible refine below_drewN' ?_ _ | with_reducible refine Below.alloc ?_ ?_ _ | with_reducible refine Below.setCell ?_ ?_ _ | with_reducible exact Nat.le_refl _ | omega | focus (simp; done) | focus (simp; omega)))

set_option maxRecDepth 100000 in
set_option maxHeartbeats 1000000 in
theorem again_good {k : ByteArray} {bs : List Int} {l0 : Lay} (hk : (k.toList == [114, 97, 100, 105, 117, 115]) = false) (h4 : bs.length ≤ 400) (h5 : l0.parts.length ≤ 50) (hs : SpecOf (.string k) bs (some (some l0))) (hp : PlainOf (.string k) bs true) (hw : WriteOf (.string k) l0 bs) (ha : AliveOf)
    {v : Value} {w : World} (h : SB w (fun _ => True) v bs) :
    Calls Tryz.prog 5 #[.string k, v] w fun e w' => e = .returned (.bool true) ∧ Below w.heap.size w w' := by
  have HH := Lib.hid h
  have HS := Lib.hid hs
  obtain ⟨p0, c0, rfl, _⟩ := h
  clear hs
  have HP := Lib.hid hp
  have HW := Lib.hid hw
  have HA := Lib.hid ha
  clear hp hw ha
  have h4' : ¬ ((400 : Int) < (bs.length : Int)) := by omega
  have d4 : decide ((400 : Int) < (bs.length : Int)) = false := by simp <;> omega
  have h5' : ¬ ((50 : Int) < (l0.parts.length : Int)) := by omega
  have d5 : decide ((50 : Int) < (l0.parts.length : Int)) = false := by simp <;> omega
  go_enter Tryz.func5, Tryz.ntmps5
  go_wp2_with fail
  refine (HS.out _ _ HH.out).mono ?_
  rintro e1 w1 ⟨hb1, u, l, hu, hD⟩
  obtain ⟨p1, n1, c1, p2, n2, c2, p3, n3, c3, p4, n4, c4, rfl, rfl⟩ := hu.agg
  have HU := Lib.hid hu
  have HB := Lib.hid hb1
  have L1 := hb1.size
  clear hu hb1
  rcases hD with ⟨hD, -⟩ | ⟨hD, -⟩ | ⟨hD, rfl⟩
  cases hD
  cases hD
  obtain rfl := Option.some.inj (Option.some.inj hD)
  clear hD
  go_wp2_with fail
  refine (HP.out _ _ (HH.out.keeps ((Keeps.of_below HB.out).alloc _))).mono ?_
  rintro e2 w2 ⟨rfl, hb2⟩
  obtain ⟨r0, r1, r2, r3⟩ := cells4 hb2
  obtain ⟨f0, f1, f2, f3⟩ := frozen4 hb2
  have lw := size_new hb2
  have h1 := HB.out
  have h2 : Below w.heap.size w w2 := below_next (h1.alloc (by omega) _) hb2 (by simp <;> omega)
  have hk2 : Keeps (fun _ => True) w1 w2 := ((Keeps.refl _ w1).alloc _).trans (Keeps.of_below hb2)
  have HK2 := Lib.hid hk2
  have H2 := Lib.hid h2
  have L2 := h2.size
  clear h1 h2 hb2 hk2
  go_wp2_with fail
  refine (HW.out _ _ (HU.out.keeps HK2.out)).mono ?_
  rintro e3 w3 ⟨hb3, q5, n5, c5, rfl, hq⟩
  have HQ := Lib.hid hq
  have h2 := H2.out
  have H3 := Lib.hid (show Below w.heap.size w w3 from below_next h2 hb3 (by omega))
  have HK3 := Lib.hid (show Keeps (fun _ => True) w1 w3 from HK2.out.trans (Keeps.of_below hb3))
  have L3 := hb3.size
  clear h2 hb3 hq
  go_wp2_with fail
  refine (bytesEqual_c HQ.out ((HH.out.keeps (Keeps.of_below HB.out)).keeps HK3.out)).mono ?_
  rintro e4 w4 ⟨rfl, rfl⟩
  go_wp2_with fail
  refine (HA.out _).mono ?_
  rintro e5 w5 ⟨rfl, hb5⟩
  have HB5 := Lib.hid hb5
  clear hb5
  go_wp2_with fail
  refine bodyPost_ret (v := .bool true) (by simp only [results, Tryz.results5]; go_simp) rfl ⟨rfl, ?_⟩
  have h3 := H3.out
  exact below_next (by repeat (first | with_reducible assumption | with_reducible refine Below.drew ?_ | with_reducible refine below_drewN' ?_ _ | with_reducible refine Below.alloc ?_ ?_ _ | with_reducible refine Below.setCell ?_ ?_ _ | with_reducible exact Nat.le_refl _ | omega | focus (simp; done) | focus (simp; omega))) HB5.out (by first | omega | (simp; omega))

theorem again_c {k : ByteArray} {bs : List Int} {D : Option (Option Lay)} {p : Bool} (hk : (k.toList == [114, 97, 100, 105, 117, 115]) = false) (hs : SpecOf (.string k) bs D) (hp : bs.length ≤ 400 → ∀ l, D = some (some l) → PlainOf (.string k) bs p)
    (hw : bs.length ≤ 400 → ∀ l, D = some (some l) → l.parts.length ≤ 50 → p = true → WriteOf (.string k) l bs) (ha : AliveOf)
    {v : Value} {w : World} (h : SB w (fun _ => True) v bs) :
    Calls Tryz.prog 5 #[.string k, v] w fun e w' => e = .returned (.bool true) ∧ Below w.heap.size w w' := by
  by_cases h4 : bs.length ≤ 400
  · rcases D with _ | (_ | l0)
    · exact again_open h4 hs h
    · exact again_none h4 hs h
    · by_cases h5 : l0.parts.length ≤ 50
      · cases p with
        | false => exact again_odd h4 h5 hs (hp h4 _ rfl) h
        | true => exact again_good hk h4 h5 hs (hp h4 _ rfl) (hw h4 _ rfl h5 rfl) ha h
      · exact again_many h4 h5 hs h
  · exact again_long h4 hs h
end Go.Proofs.YtmpifdanfnebpaaGreat
