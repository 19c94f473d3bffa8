/-
  spec.radius: what is said of all bytes.
-/
import Derived.Test.YtaejicpdaldpiaaGreatSradius
import Derived.Test.YtaejicpdaldpiaaGreatLaw
namespace Go.Proofs.YtaejicpdaldpiaaGreat
open Go Go.RowKit

/-- What is said of the bytes. -/
def sRadius (bs : List Int) : Option (Option Lay) :=
  match bs with
  | x0 :: x1 :: x2 :: x3 :: rest => if (x0 :: x1 :: x2 :: x3 :: rest).length < 20 then some none else if x2 * 256 + x3 = ((x0 :: x1 :: x2 :: x3 :: rest).length : Int) then
      (dAttrs ((x0 :: x1 :: x2 :: x3 :: rest).drop 20)).map (Option.map (fun ps => (⟨[x0, x1, ((x0 :: x1 :: x2 :: x3 :: rest).length : Int)], [((x0 :: x1 :: x2 :: x3 :: rest).drop 4).take 16], ps, rPay ps⟩ : Lay))) else none
  | _ => some none
theorem sRadius_short {bs : List Int} (h : bs.length < 20) : sRadius bs = some none := by
  unfold sRadius
  split
  · exact if_pos h
  · rfl
theorem sRadius_open {x0 x1 x2 x3 : Int} {rest : List Int} (h : 20 ≤ (x0 :: x1 :: x2 :: x3 :: rest).length) (hn : ¬ x2 * 256 + x3 = ((x0 :: x1 :: x2 :: x3 :: rest).length : Int)) : sRadius (x0 :: x1 :: x2 :: x3 :: rest) = none := by
  unfold sRadius
  exact (if_neg (by omega)).trans (if_neg hn)
theorem sRadius_long {x0 x1 x2 x3 : Int} {rest : List Int} (h : 20 ≤ (x0 :: x1 :: x2 :: x3 :: rest).length) (hn : x2 * 256 + x3 = ((x0 :: x1 :: x2 :: x3 :: rest).length : Int)) : sRadius (x0 :: x1 :: x2 :: x3 :: rest) =
    (dAttrs ((x0 :: x1 :: x2 :: x3 :: rest).drop 20)).map (Option.map (fun ps => (⟨[x0, x1, ((x0 :: x1 :: x2 :: x3 :: rest).length : Int)], [((x0 :: x1 :: x2 :: x3 :: rest).drop 4).take 16], ps, rPay ps⟩ : Lay))) := by
  unfold sRadius
  exact (if_neg (by omega)).trans (if_pos hn)

set_option maxRecDepth 100000 in
set_option maxHeartbeats 1000000 in
theorem radius_open {g o n c : Nat} (x0 x1 x2 x3 : Int) {rest : List Int} {w : World} (h20 : 20 ≤ n) (hc : n ≤ c) (hx : ¬ x2 * 256 + x3 = (n : Int))
    (hb : ∀ z ∈ [x0, x1, x2, x3], 0 ≤ z ∧ z ≤ 255) (hr : RowAt w (fun _ => True) (some ⟨g, o, none⟩) ((x0 :: x1 :: x2 :: x3 :: rest).map (.int .u8))) :
    Calls Tryz.prog 30 #[.slice (some ⟨g, o, none⟩) n c] w fun e w' => e = .returned (.tuple #[zlay, .bool false, .bool false]) ∧ Below w.heap.size w w' := by
  have b2 : (2 : Int) ≤ (c : Int) := by omega
  have b4 : (4 : Int) ≤ (c : Int) := by omega
  have ec2 : ¬ (c = 2) := by omega
  have hxb : (x2 * 256 + x3 == (n : Int)) = false := by simp [hx]
  have hxb' : (x2 * 256 + x3 != (n : Int)) = true := by simp [hx]
  obtain ⟨hg, hcell⟩ := rowCells hr (by simp)
  have c2 := hcell 2 _ (by simp; rfl)
  have c3 := hcell 3 _ (by simp; rfl)
  have h2 := hb x2 (by simp)
  have h3 := hb x3 (by simp)
  clear hr hcell hb
  have lg1 : g < w.heap.size + 1 := by omega
  go_enter Tryz.func30, Tryz.ntmps30
  go_wp2_with (first | (go_at_call 25; refine (number2_c x2 x3 h2 h3 (by go_simp) (by go_simp)).mono ?_; rintro e w' ⟨rfl, rfl⟩) | (go_at_call 31; refine open_c.mono ?_; rintro e w' ⟨rfl, rfl⟩))
  refine bodyPost_ret (v := .tuple #[zlay, .bool false, .bool false]) (by simp only [results, Tryz.results30]; go_simp) rfl ?_
  have h0 := Below.refl w.heap.size w
  exact ⟨rfl, (by repeat (first | with_reducible assumption | with_reducible refine Below.drew ?_ | with_reducible refine below_drewN' ?_ _ | with_reducible refine Below.alloc ?_ ?_ _ | with_reducible refine Below.setCell ?_ ?_ _ | with_reducible exact Nat.le_refl _ | omega | focus (simp; done) | focus (simp; omega)))⟩

theorem layOn_zlay3 (w : World) (ok : Nat → Prop) : LayOn w ok zlay ⟨[], [], [], []⟩ := ⟨_, _, _, _, rfl, SN.nil _ _, SD.nil _ _, SP.nil _ _, SB.nil _ _⟩

theorem helpOf_radius {bs : List Int} (hb : ∀ z ∈ bs, 0 ≤ z ∧ z ≤ 255) (hlim : bs.length ≤ 2147483648) (h20 : 20 ≤ bs.length) : HelpOf 30 bs (sRadius bs) := by
  intro R v w hR h
  obtain ⟨p, c, rfl, hnc, hc, hp, hr⟩ := h
  obtain ⟨x0, x1, x2, x3, rest, rfl⟩ := four (by omega : 4 ≤ bs.length)
  rcases hr with h | ⟨b, o, rfl, g1, g2, g3⟩
  · simp at h
  · have hr' : RowAt w (fun b => b ≠ R) (some ⟨b, o, none⟩) ((x0 :: x1 :: x2 :: x3 :: rest).map (.int .u8)) := .inr ⟨b, o, rfl, g1, g2, g3⟩
    by_cases hx : x2 * 256 + x3 = ((x0 :: x1 :: x2 :: x3 :: rest).length : Int)
    · rw [sRadius_long h20 hx]
      refine (radius_walk x0 x1 x2 x3 (rest := rest) (by simp) h20 hnc hc hlim hx g1 rfl hb hR hr').mono ?_
      rintro e w' ⟨⟨h1, h2⟩ | ⟨h1, h2⟩ | ⟨ps, v, h1, h2, h3⟩, hbel⟩
      · exact ⟨hbel, _, _, layOn_zlay3 _ _, .inl ⟨by rw [h1]; rfl, _, h2⟩⟩
      · exact ⟨hbel, _, _, layOn_zlay3 _ _, .inr (.inl ⟨by rw [h1]; rfl, h2⟩)⟩
      · exact ⟨hbel, v, _, h3, .inr (.inr ⟨by rw [h1]; rfl, h2⟩)⟩
    · rw [sRadius_open h20 hx]
      refine (radius_open x0 x1 x2 x3 (rest := rest) h20 hnc hx (fun z hz => hb z (List.mem_append_left rest hz)) (hr'.imp (fun _ _ _ => trivial))).mono ?_
      rintro e w' ⟨h1, hbel⟩
      exact ⟨hbel, _, _, layOn_zlay3 _ _, .inl ⟨rfl, _, h1⟩⟩

theorem sRadius_cases {bs : List Int} {r : Option Lay} (h : sRadius bs = some r) : (bs.length < 20 ∧ r = none) ∨ ∃ x0 x1 x2 x3 rest q, bs = x0 :: x1 :: x2 :: x3 :: rest ∧ 20 ≤ bs.length ∧ x2 * 256 + x3 = (bs.length : Int) ∧ dAttrs (bs.drop 20) = some q ∧
    r = q.map (fun ps => (⟨[x0, x1, (bs.length : Int)], [(bs.drop 4).take 16], ps, rPay ps⟩ : Lay)) := by
  by_cases h20 : bs.length < 20
  · rw [sRadius_short h20] at h
    exact .inl ⟨h20, (Option.some.inj h).symm⟩
  · obtain ⟨x0, x1, x2, x3, rest, rfl⟩ := four (by omega : 4 ≤ bs.length)
    by_cases hx : x2 * 256 + x3 = ((x0 :: x1 :: x2 :: x3 :: rest).length : Int)
    · rw [sRadius_long (by omega) hx] at h
      cases hq : dAttrs ((x0 :: x1 :: x2 :: x3 :: rest).drop 20) with
      | none => rw [hq] at h; cases h
      | some q =>
        rw [hq] at h
        exact .inr ⟨x0, x1, x2, x3, rest, q, rfl, by omega, hx, rfl, (Option.some.inj h).symm⟩
    · rw [sRadius_open (by omega) hx] at h
      cases h
end Go.Proofs.YtaejicpdaldpiaaGreat
