/-
  spec.dhcp: what is said of all bytes.
-/
import Derived.Test.YtaejicpdaldpiaaGreatSdhcp12
import Derived.Test.YtaejicpdaldpiaaGreatSdhcp13
import Derived.Test.YtaejicpdaldpiaaGreatLaw
namespace Go.Proofs.YtaejicpdaldpiaaGreat
open Go Go.RowKit

theorem layOn_zlay2 (w : World) (ok : Nat → Prop) : LayOn w ok zlay ⟨[], [], [], []⟩ := ⟨_, _, _, _, rfl, SN.nil _ _, SD.nil _ _, SP.nil _ _, SB.nil _ _⟩

set_option maxRecDepth 100000 in
set_option maxHeartbeats 1000000 in
theorem dhcp_few12 {g o n c : Nat} (x0 x1 x2 x3 : Int) {rest : List Int} {w : World} (hn : n = rest.length + 4) (hc : n ≤ c) (hx : x0 = 12) (h34 : n < 34)
    (hb : ∀ z ∈ [x0, x1, x2, x3], 0 ≤ z ∧ z ≤ 255) (hr : RowAt w (fun _ => True) (some ⟨g, o, none⟩) ((x0 :: x1 :: x2 :: x3 :: rest).map (.int .u8))) :
    Calls Tryz.prog 29 #[.slice (some ⟨g, o, none⟩) n c] w fun e w' => e = .returned (.tuple #[zlay, .bool false, .bool true]) ∧ Below w.heap.size w w' := by
  have hnm : 4 ≤ n := by omega
  have b1 : (1 : Int) ≤ (c : Int) := by omega
  have b4 : (4 : Int) ≤ (c : Int) := by omega
  have e1 : ¬ (c = 1) := by omega
  have hn34 : (n : Int) < 34 := by omega
  obtain ⟨A4, hA4⟩ : ∃ A, (if c = 4 then some (⟨g, o, none⟩ : Addr) else some ⟨g, o + 4, none⟩) = A := ⟨_, rfl⟩
  obtain ⟨hg, hcell⟩ := rowCells hr (by simp)
  have c0 := hcell 0 _ (by simp; rfl)
  rw [Nat.add_zero] at c0
  have h0 := hb x0 (by simp)
  have hxb : (x0 == 12) = true := by simp [hx]
  have HX := Lib.hid hx
  clear hn hr hcell hb hx
  have lg1 : g < w.heap.size + 1 := by omega
  have lg2 : g < w.heap.size + 1 + 1 := by omega
  have lg3 : g < w.heap.size + 1 + 1 + 1 := by omega
  have lg4 : g < w.heap.size + 1 + 1 + 1 + 1 := by omega
  have lg5 : g < w.heap.size + 1 + 1 + 1 + 1 + 1 := by omega
  have lg6 : g < w.heap.size + 1 + 1 + 1 + 1 + 1 + 1 := by omega
  go_enter Tryz.func29, Tryz.ntmps29
  go_wp2_with (first | (go_at_call 24; refine whole_c.mono ?_; rintro e w' ⟨rfl, rfl⟩) | (go_at_call 23; refine none_c.mono ?_; rintro e w' ⟨rfl, rfl⟩))
  refine bodyPost_ret (v := .tuple #[zlay, .bool false, .bool true]) (by simp only [results, Tryz.results29]; go_simp) rfl ?_
  have h0 := Below.refl w.heap.size w
  exact ⟨rfl, (by repeat (first | with_reducible assumption | with_reducible refine Below.drew ?_ | with_reducible refine below_drewN' ?_ _ | with_reducible refine Below.alloc ?_ ?_ _ | with_reducible refine Below.setCell ?_ ?_ _ | with_reducible exact Nat.le_refl _ | omega | focus (simp; done) | focus (simp; omega)))⟩

set_option maxRecDepth 100000 in
set_option maxHeartbeats 1000000 in
theorem dhcp_few13 {g o n c : Nat} (x0 x1 x2 x3 : Int) {rest : List Int} {w : World} (hn : n = rest.length + 4) (hc : n ≤ c) (hx : x0 = 13) (h34 : n < 34)
    (hb : ∀ z ∈ [x0, x1, x2, x3], 0 ≤ z ∧ z ≤ 255) (hr : RowAt w (fun _ => True) (some ⟨g, o, none⟩) ((x0 :: x1 :: x2 :: x3 :: rest).map (.int .u8))) :
    Calls Tryz.prog 29 #[.slice (some ⟨g, o, none⟩) n c] w fun e w' => e = .returned (.tuple #[zlay, .bool false, .bool true]) ∧ Below w.heap.size w w' := by
  have hnm : 4 ≤ n := by omega
  have b1 : (1 : Int) ≤ (c : Int) := by omega
  have b4 : (4 : Int) ≤ (c : Int) := by omega
  have e1 : ¬ (c = 1) := by omega
  have hn34 : (n : Int) < 34 := by omega
  obtain ⟨A4, hA4⟩ : ∃ A, (if c = 4 then some (⟨g, o, none⟩ : Addr) else some ⟨g, o + 4, none⟩) = A := ⟨_, rfl⟩
  obtain ⟨hg, hcell⟩ := rowCells hr (by simp)
  have c0 := hcell 0 _ (by simp; rfl)
  rw [Nat.add_zero] at c0
  have h0 := hb x0 (by simp)
  have hxb : (x0 == 12) = false := by simp [hx]
  have hyb : (x0 == 13) = true := by simp [hx]
  have HX := Lib.hid hx
  clear hn hr hcell hb hx
  have lg1 : g < w.heap.size + 1 := by omega
  have lg2 : g < w.heap.size + 1 + 1 := by omega
  have lg3 : g < w.heap.size + 1 + 1 + 1 := by omega
  have lg4 : g < w.heap.size + 1 + 1 + 1 + 1 := by omega
  have lg5 : g < w.heap.size + 1 + 1 + 1 + 1 + 1 := by omega
  have lg6 : g < w.heap.size + 1 + 1 + 1 + 1 + 1 + 1 := by omega
  go_enter Tryz.func29, Tryz.ntmps29
  go_wp2_with (first | (go_at_call 24; refine whole_c.mono ?_; rintro e w' ⟨rfl, rfl⟩) | (go_at_call 23; refine none_c.mono ?_; rintro e w' ⟨rfl, rfl⟩))
  refine bodyPost_ret (v := .tuple #[zlay, .bool false, .bool true]) (by simp only [results, Tryz.results29]; go_simp) rfl ?_
  have h0 := Below.refl w.heap.size w
  exact ⟨rfl, (by repeat (first | with_reducible assumption | with_reducible refine Below.drew ?_ | with_reducible refine below_drewN' ?_ _ | with_reducible refine Below.alloc ?_ ?_ _ | with_reducible refine Below.setCell ?_ ?_ _ | with_reducible exact Nat.le_refl _ | omega | focus (simp; done) | focus (simp; omega)))⟩

/-- What is said of the bytes. -/
def sDhcp (bs : List Int) : Option (Option Lay) :=
  match bs with
  | x0 :: x1 :: x2 :: x3 :: rest => if x0 = 12 ∨ x0 = 13 then (if 34 ≤ (x0 :: x1 :: x2 :: x3 :: rest).length then (dOpts ((x0 :: x1 :: x2 :: x3 :: rest).drop 34)).map (Option.map (fun ps => (⟨[x0, x1], [((x0 :: x1 :: x2 :: x3 :: rest).drop 2).take 16, ((x0 :: x1 :: x2 :: x3 :: rest).drop 18).take 16, []], ps, []⟩ : Lay))) else some none) else (dOpts ((x0 :: x1 :: x2 :: x3 :: rest).drop 4)).map (Option.map (fun ps => (⟨[x0, 0], [[], [], [x1, x2, x3]], ps, []⟩ : Lay)))
  | _ => some none
theorem sDhcp_short {bs : List Int} (h : bs.length < 4) : sDhcp bs = some none := by
  unfold sDhcp
  split
  · simp at h
    omega
  · rfl
theorem sDhcp_plain {x0 x1 x2 x3 : Int} {rest : List Int} (h : ¬ (x0 = 12 ∨ x0 = 13)) : sDhcp (x0 :: x1 :: x2 :: x3 :: rest) = (dOpts ((x0 :: x1 :: x2 :: x3 :: rest).drop 4)).map (Option.map (fun ps => (⟨[x0, 0], [[], [], [x1, x2, x3]], ps, []⟩ : Lay))) := by
  unfold sDhcp
  exact if_neg h
theorem sDhcp_relay {x0 x1 x2 x3 : Int} {rest : List Int} (h : x0 = 12 ∨ x0 = 13) (hl : 34 ≤ (x0 :: x1 :: x2 :: x3 :: rest).length) : sDhcp (x0 :: x1 :: x2 :: x3 :: rest) = (dOpts ((x0 :: x1 :: x2 :: x3 :: rest).drop 34)).map (Option.map (fun ps => (⟨[x0, x1], [((x0 :: x1 :: x2 :: x3 :: rest).drop 2).take 16, ((x0 :: x1 :: x2 :: x3 :: rest).drop 18).take 16, []], ps, []⟩ : Lay))) := by
  unfold sDhcp
  exact (if_pos h).trans (if_pos hl)
theorem sDhcp_few {x0 x1 x2 x3 : Int} {rest : List Int} (h : x0 = 12 ∨ x0 = 13) (hl : ¬ 34 ≤ (x0 :: x1 :: x2 :: x3 :: rest).length) : sDhcp (x0 :: x1 :: x2 :: x3 :: rest) = some none := by
  unfold sDhcp
  exact (if_pos h).trans (if_neg hl)

theorem help_opts {all nums : List Int} {data : List (List Int)} {R : Nat} {e : Ending} {w w' : World} {D : Option (Option Lay)} (hD : D = (dOpts all).map (Option.map (fun ps => (⟨nums, data, ps, []⟩ : Lay)))) (h : OptsPost all nums data R e w' ∧ Below w.heap.size w w') :
    Below w.heap.size w w' ∧ ∃ u l, LayOn w' (fun b => b ≠ R) u l ∧ ((D = none ∧ ∃ ok, e = .returned (.tuple #[u, .bool ok, .bool false])) ∨ (D = some none ∧ e = .returned (.tuple #[u, .bool false, .bool true])) ∨ (D = some (some l) ∧ e = .returned (.tuple #[u, .bool true, .bool true]))) := by
  obtain ⟨h, hb⟩ := h
  refine ⟨hb, ?_⟩
  rcases h with ⟨h1, h2⟩ | ⟨h1, h2⟩ | ⟨ps, v, h1, h2, h3⟩
  · exact ⟨_, _, layOn_zlay2 _ _, .inl ⟨by rw [hD, h1]; rfl, _, h2⟩⟩
  · exact ⟨_, _, layOn_zlay2 _ _, .inr (.inl ⟨by rw [hD, h1]; rfl, h2⟩)⟩
  · exact ⟨v, _, h3, .inr (.inr ⟨by rw [hD, h1]; rfl, h2⟩)⟩

theorem helpOf_dhcp {bs : List Int} (hb : ∀ z ∈ bs, 0 ≤ z ∧ z ≤ 255) (hlim : bs.length ≤ 2147483648) (h4 : 4 ≤ bs.length) : HelpOf 29 bs (sDhcp bs) := by
  intro R v w hR h
  obtain ⟨p, c, rfl, hnc, hc, hp, hr⟩ := h
  obtain ⟨x0, x1, x2, x3, rest, rfl⟩ := four h4
  rcases hr with h | ⟨b, o, rfl, g1, g2, g3⟩
  · simp at h
  · have hb' : ∀ z ∈ [x0, x1, x2, x3], 0 ≤ z ∧ z ≤ 255 := fun z hz => hb z (List.mem_append_left rest hz)
    have hr' : RowAt w (fun b => b ≠ R) (some ⟨b, o, none⟩) ((x0 :: x1 :: x2 :: x3 :: rest).map (.int .u8)) := .inr ⟨b, o, rfl, g1, g2, g3⟩
    by_cases hx : x0 = 12 ∨ x0 = 13
    · by_cases h34 : 34 ≤ (x0 :: x1 :: x2 :: x3 :: rest).length
      · rcases hx with hx | hx
        · exact (dhcp_relay12 x0 x1 x2 x3 (rest := rest) (by simp) hnc hc hlim hx h34 g1 rfl hb hb' hR hr').mono fun e w' h => help_opts (sDhcp_relay (.inl hx) h34) h
        · exact (dhcp_relay13 x0 x1 x2 x3 (rest := rest) (by simp) hnc hc hlim hx h34 g1 rfl hb hb' hR hr').mono fun e w' h => help_opts (sDhcp_relay (.inr hx) h34) h
      · have hr2 : RowAt w (fun _ => True) (some ⟨b, o, none⟩) ((x0 :: x1 :: x2 :: x3 :: rest).map (.int .u8)) := hr'.imp (fun _ _ _ => trivial)
        rw [sDhcp_few hx h34]
        rcases hx with hx | hx
        · exact (dhcp_few12 x0 x1 x2 x3 (rest := rest) (by simp) hnc hx (by omega) hb' hr2).mono fun e w' h => ⟨h.2, _, _, layOn_zlay2 _ _, .inr (.inl ⟨rfl, h.1⟩)⟩
        · exact (dhcp_few13 x0 x1 x2 x3 (rest := rest) (by simp) hnc hx (by omega) hb' hr2).mono fun e w' h => ⟨h.2, _, _, layOn_zlay2 _ _, .inr (.inl ⟨rfl, h.1⟩)⟩
    · exact (dhcp_plain x0 x1 x2 x3 (rest := rest) (by simp) hnc hc hlim hx g1 rfl hb hb' hR hr').mono fun e w' h => help_opts (sDhcp_plain hx) h

theorem sDhcp_pay {bs : List Int} {l : Lay} (h : sDhcp bs = some (some l)) : l.payload = [] := by
  unfold sDhcp at h
  split at h
  · split at h
    · split at h
      · cases hq : dOpts (List.drop 34 _) with
        | none => rw [hq] at h; cases h
        | some q =>
          rw [hq] at h
          cases q with
          | none => simp at h
          | some ps => simp at h; subst h; rfl
      · simp at h
    · cases hq : dOpts (List.drop 4 _) with
      | none => rw [hq] at h; cases h
      | some q =>
        rw [hq] at h
        cases q with
        | none => simp at h
        | some ps => simp at h; subst h; rfl
  · simp at h

end Go.Proofs.YtaejicpdaldpiaaGreat
