/-
  The decoder of dhcpv6, from the kind on.
-/
import Derived.Test.YtaofambmajlhmaaDdhcp12
import Derived.Test.YtaofambmajlhmaaDdhcp13
namespace Go.Proofs.Ytaofambmajlhmaa
open Go Go.RowKit

theorem dOpts_length {l : List Int} {ps : List (List Int × List Int)} (h : dOpts l = some (some ps)) {B : Nat} (hB : l.length ≤ B) : ps.length ≤ B := by
  have key : ∀ (n : Nat) (l : List Int) (ps : List (List Int × List Int)), l.length ≤ n → dOpts l = some (some ps) → ps.length ≤ l.length := by
    intro n
    induction n with
    | zero =>
      intro l ps hl h
      have : l = [] := List.eq_nil_of_length_eq_zero (by omega)
      subst this
      rw [dOpts_nil] at h
      simp at h
      subst h
      simp
    | succ n ih =>
      intro l ps hl h
      by_cases h0 : l = []
      · subst h0
        rw [dOpts_nil] at h
        simp at h
        subst h
        simp
      · by_cases h4 : l.length < 4
        · rw [dOpts_few h0 h4] at h
          simp at h
        · obtain ⟨a, b, c, d, rest, rfl⟩ := four (by omega : 4 ≤ l.length)
          by_cases ho : 1000 < c * 256 + d
          · rw [dOpts_open ho] at h
            cases h
          · by_cases hf : (c * 256 + d).toNat ≤ rest.length
            · rw [dOpts, if_neg ho, if_pos hf] at h
              cases hr : dOpts (rest.drop (c * 256 + d).toNat) with
              | none => rw [hr] at h; cases h
              | some x =>
                cases x with
                | none => rw [hr] at h; simp at h
                | some qs =>
                  rw [hr] at h
                  simp at h
                  have := ih _ qs (by simp at hl ⊢; omega) hr
                  rw [← h]
                  simp at this ⊢
                  omega
            · rw [dOpts_long ho hf] at h
              simp at h
  exact Nat.le_trans (key l.length l ps (Nat.le_refl _) h) hB

/-- A DHCPv6 at X. -/
def IsDhcp (w : World) (X : Nat) (pl : Value) (l : Lay) : Prop :=
  ∃ (m h : Int) (v4 v5 v6 : Value) (la pa ti : List Int) (iv : Value) (ps : List (List Int × List Int)) (pay : List Int), l = ⟨[m, h], [la, pa, ti], ps, pay⟩ ∧ w.cell? ⟨X, 1, none⟩ = some pl ∧ SB w (fun _ => True) pl pay ∧
    w.cell? ⟨X, 2, none⟩ = some (.int .u8 m) ∧ w.cell? ⟨X, 3, none⟩ = some (.int .u8 h) ∧ w.cell? ⟨X, 4, none⟩ = some v4 ∧ SB w (fun _ => True) v4 la ∧ w.cell? ⟨X, 5, none⟩ = some v5 ∧ SB w (fun _ => True) v5 pa ∧ w.cell? ⟨X, 6, none⟩ = some v6 ∧ SB w (fun _ => True) v6 ti ∧
    w.cell? ⟨X, 7, none⟩ = some iv ∧ Rows eO w 0 (fun _ => True) 119 iv ps ∧
    (0 ≤ m ∧ m ≤ 255) ∧ (0 ≤ h ∧ h ≤ 255) ∧ la.length ≤ 1000 ∧ pa.length ≤ 1000 ∧ ti.length ≤ 1000 ∧ ps.length ≤ 2147483648
theorem isDhcp_below {w w' : World} {X : Nat} {pl : Value} {l : Lay} (k : Below w.heap.size w w') (hI : IsDhcp w X pl l) : IsDhcp w' X pl l := by
  obtain ⟨m, h, v4, v5, v6, la, pa, ti, iv, ps, pay, rfl, c1, hp, c2, c3, c4, h4, c5, h5, c6, h6, c7, hI, b1, b2, b3, b4, b5, b6⟩ := hI
  have hc : ∀ j u, w.cell? ⟨X, j, none⟩ = some u → w'.cell? ⟨X, j, none⟩ = some u := fun j u hu => (k.cell (p := ⟨X, j, none⟩) (World.block_lt_of_cell? _ _ hu)).trans hu
  have K : Keeps (fun _ => True) w w' := Keeps.of_below k
  exact ⟨m, h, v4, v5, v6, la, pa, ti, iv, ps, pay, rfl, hc _ _ c1, hp.keeps K, hc _ _ c2, hc _ _ c3, hc _ _ c4, h4.keeps K, hc _ _ c5, h5.keeps K, hc _ _ c6, h6.keeps K, hc _ _ c7, hI.keeps (Keeps.of_below k), b1, b2, b3, b4, b5, b6⟩
theorem isDhcp_pl {w : World} {X : Nat} {pl : Value} {l : Lay} (hI : IsDhcp w X pl l) : w.cell? ⟨X, 1, none⟩ = some pl := by
  obtain ⟨m, h, v4, v5, v6, la, pa, ti, iv, ps, pay, rfl, c1, hp, c2, c3, c4, h4, c5, h5, c6, h6, c7, hI, b1, b2, b3, b4, b5, b6⟩ := hI
  exact c1

set_option maxRecDepth 100000 in
set_option maxHeartbeats 1000000 in
theorem decode_dhcp_plain {g o n c : Nat} (x0 x1 x2 x3 : Int) {rest : List Int} {w : World} (hn : n = rest.length + 4) (hc : n ≤ c) (hm : c ≤ 9223372036854775807) (hLIM : n ≤ 2147483648) (hx : ¬ (x0 = 12 ∨ x0 = 13)) {all : List Int} (hAll : all = (x0 :: x1 :: x2 :: x3 :: rest).drop 4) {r : Option (List (List Int × List Int))} (hres : dOpts all = some r)
    (hall : ∀ z ∈ x0 :: x1 :: x2 :: x3 :: rest, 0 ≤ z ∧ z ≤ 255) (hr : RowAt w (fun _ => True) (some ⟨g, o, none⟩) ((x0 :: x1 :: x2 :: x3 :: rest).map (.int .u8))) :
    Calls Try.prog 42 #[.string ⟨#[100, 104, 99, 112, 118, 54]⟩, .slice (some ⟨g, o, none⟩) n c] w fun e w' => Below w.heap.size w w' ∧ ((r = none ∧ ∃ t u, e = .returned (.tuple #[.nilIface, .iface t u])) ∨
      ∃ ps X pl, r = some ps ∧ e = .returned (.tuple #[.iface 111 (.pointer (some ⟨X, 0, none⟩)), .nilIface]) ∧ IsDhcp w' X pl ⟨[x0, 0], [[], [], [x1, x2, x3]], ps, []⟩) := by
  have m2 := m_add
  have HR := Lib.hid hr
  have HB := Lib.hid hall
  have HN := Lib.hid hn
  have HRES := Lib.hid hres
  have HX := Lib.hid hx
  have HALL := Lib.hid hAll
  have h0 := hall x0 (by simp)
  have h1 := hall x1 (by simp)
  clear hr hall hn hres hx hAll
  go_enter Try.func42, Try.ntmps42
  have HR1 := Lib.hid (HR.out.imp (fun b hb _ => hb))
  go_wp2_with (first | (go_at_call 46; refine new_c.mono ?_; rintro e w' ⟨rfl, rfl⟩) | (go_at_call 56; go_in))
  refine (dfb_dhcp_plain x0 x1 x2 x3 HN.out hc hm hLIM HX.out HALL.out HRES.out HB.out (by omega) (HR1.out.keeps (by repeat (first | with_reducible assumption | with_reducible exact Keeps.refl _ _ | with_reducible refine Keeps.drew ?_ | with_reducible refine Keeps.alloc ?_ _ | with_reducible refine Keeps.setCell ?_ ?_ _ | omega | focus (simp; done) | focus (simp; omega)))) (by (try simp only [heap_drew]); repeat (first | (with_reducible refine heap_last ?_; focus (simp; done)) | with_reducible refine heap_past ?_))).mono ?_
  rintro e w1 ⟨hb1, ⟨hr0, b, rfl⟩ | ⟨ps, hr1, rfl, c1, c2, c3, ⟨v4, c4, h4⟩, ⟨v5, c5, h5⟩, ⟨v6, c6, h6⟩, iv, c7, hI⟩⟩
  · have HB1 := Lib.hid hb1
    have HR0 := Lib.hid hr0
    clear hb1 hr0
    go_wp2_with fail
    refine bodyPost_ret (v := .tuple #[.nilIface, .iface 178 (.pointer (some ⟨b, 0, none⟩))]) (by simp only [results, Try.results42]; go_simp) rfl ?_
    have hw : Below w.heap.size w w1 := by
      have h0 := Below.refl w.heap.size w
      refine Below.trans (b := _) ?_ (HB1.out.mono (by omega))
      exact (by repeat (first | with_reducible assumption | with_reducible refine Below.drew ?_ | with_reducible refine Below.alloc ?_ ?_ _ | with_reducible refine Below.setCell ?_ ?_ _ | with_reducible exact Nat.le_refl _ | omega | focus (simp; done) | focus (simp; omega)))
    exact ⟨(by repeat (first | with_reducible assumption | with_reducible refine Below.drew ?_ | with_reducible refine Below.alloc ?_ ?_ _ | with_reducible refine Below.setCell ?_ ?_ _ | with_reducible exact Nat.le_refl _ | omega | focus (simp; done) | focus (simp; omega))), .inl ⟨HR0.out, _, _, rfl⟩⟩
  · have k0 : w1.cell? ⟨w.heap.size, 0, none⟩ = some .nilIface := (hb1.cell (p := ⟨w.heap.size, 0, none⟩) (by simp; omega)).trans (by go_simp)
    have k1 : w1.frozen? ⟨w.heap.size, 0, none⟩ = false := (hb1.frozen (p := ⟨w.heap.size, 0, none⟩) (by simp; omega)).trans (by go_simp)
    have HB1 := Lib.hid hb1
    have HR0 := Lib.hid hr1
    have H4 := Lib.hid h4
    have H5 := Lib.hid h5
    have H6 := Lib.hid h6
    have HI := Lib.hid hI
    have C := Lib.hid (And.intro c1 (And.intro c2 (And.intro c3 (And.intro c4 (And.intro c5 (And.intro c6 c7))))))
    clear hb1 hr1 h4 h5 h6 hI c1 c2 c3 c4 c5 c6 c7
    go_wp2_with (go_at_call 125; refine (add_c k0 k1).mono ?_; rintro e w' ⟨rfl, rfl⟩)
    refine bodyPost_ret (v := .tuple #[.iface 111 (.pointer (some ⟨w.heap.size + 1 + 1, 0, none⟩)), .nilIface]) (by simp only [results, Try.results42]; go_simp) rfl ?_
    have hw : Below w.heap.size w w1 := by
      have h0 := Below.refl w.heap.size w
      refine Below.trans (b := _) ?_ (HB1.out.mono (by omega))
      exact (by repeat (first | with_reducible assumption | with_reducible refine Below.drew ?_ | with_reducible refine Below.alloc ?_ ?_ _ | with_reducible refine Below.setCell ?_ ?_ _ | with_reducible exact Nat.le_refl _ | omega | focus (simp; done) | focus (simp; omega)))
    have hk6 : Keeps (fun b => b ≠ w.heap.size) w1 (w1.setCell ⟨w.heap.size, 0, none⟩ (.iface 111 (.pointer (some ⟨w.heap.size + 1 + 1, 0, none⟩)))) := (Keeps.refl _ _).setCell (fun h => h rfl) _
    have hc6 : ∀ j u, w1.cell? ⟨w.heap.size + 1 + 1, j, none⟩ = some u → (w1.setCell ⟨w.heap.size, 0, none⟩ (.iface 111 (.pointer (some ⟨w.heap.size + 1 + 1, 0, none⟩)))).cell? ⟨w.heap.size + 1 + 1, j, none⟩ = some u := fun j u hu => hk6.cell (b := w.heap.size + 1 + 1) (by omega) hu
    have hs6 : ∀ v bs, SB w1 (· < w.heap.size) v bs → SB (w1.setCell ⟨w.heap.size, 0, none⟩ (.iface 111 (.pointer (some ⟨w.heap.size + 1 + 1, 0, none⟩)))) (fun _ => True) v bs := fun v bs h => (h.keeps (hk6.imp (fun b hb => by omega))).imp (fun _ _ _ => trivial)
    obtain ⟨c1, c2, c3, c4, c5, c6, c7⟩ := C.out
    have hlen : ps.length ≤ 2147483648 := dOpts_length (HRES.out.trans (by rw [HR0.out])) (by rw [HALL.out]; have := HN.out; simp; omega)
    exact ⟨(by repeat (first | with_reducible assumption | with_reducible refine Below.drew ?_ | with_reducible refine Below.alloc ?_ ?_ _ | with_reducible refine Below.setCell ?_ ?_ _ | with_reducible exact Nat.le_refl _ | omega | focus (simp; done) | focus (simp; omega))), .inr ⟨ps, _, .slice none 0 0, HR0.out, rfl, _, _, v4, v5, v6, _, _, _, iv, ps, [], rfl, hc6 1 _ c1, SB.nil _ _, hc6 2 _ c2, hc6 3 _ c3, hc6 4 _ c4, hs6 _ _ H4.out, hc6 5 _ c5, hs6 _ _ H5.out, hc6 6 _ c6, hs6 _ _ H6.out, hc6 7 _ c7, (HI.out.keeps (hk6.imp (fun b hb => by rcases hb with h | h <;> omega))).imp (Nat.zero_le _) (fun _ _ _ => trivial), by omega, by omega, by simp <;> omega, by simp <;> omega, by simp <;> omega, hlen⟩⟩

set_option maxRecDepth 100000 in
set_option maxHeartbeats 1000000 in
theorem decode_dhcp_relay12 {g o n c : Nat} (x0 x1 x2 x3 : Int) {rest : List Int} {w : World} (hn : n = rest.length + 4) (hc : n ≤ c) (hm : c ≤ 9223372036854775807) (hLIM : n ≤ 2147483648) (hx : x0 = 12) (h34 : 34 ≤ n) {all : List Int} (hAll : all = (x0 :: x1 :: x2 :: x3 :: rest).drop 34) {r : Option (List (List Int × List Int))} (hres : dOpts all = some r)
    (hall : ∀ z ∈ x0 :: x1 :: x2 :: x3 :: rest, 0 ≤ z ∧ z ≤ 255) (hr : RowAt w (fun _ => True) (some ⟨g, o, none⟩) ((x0 :: x1 :: x2 :: x3 :: rest).map (.int .u8))) :
    Calls Try.prog 42 #[.string ⟨#[100, 104, 99, 112, 118, 54]⟩, .slice (some ⟨g, o, none⟩) n c] w fun e w' => Below w.heap.size w w' ∧ ((r = none ∧ ∃ t u, e = .returned (.tuple #[.nilIface, .iface t u])) ∨
      ∃ ps X pl, r = some ps ∧ e = .returned (.tuple #[.iface 111 (.pointer (some ⟨X, 0, none⟩)), .nilIface]) ∧ IsDhcp w' X pl ⟨[x0, x1], [((x0 :: x1 :: x2 :: x3 :: rest).drop 2).take 16, ((x0 :: x1 :: x2 :: x3 :: rest).drop 18).take 16, []], ps, []⟩) := by
  have m2 := m_add
  have HR := Lib.hid hr
  have HB := Lib.hid hall
  have HN := Lib.hid hn
  have HRES := Lib.hid hres
  have HX := Lib.hid hx
  have HALL := Lib.hid hAll
  have h0 := hall x0 (by simp)
  have h1 := hall x1 (by simp)
  clear hr hall hn hres hx hAll
  go_enter Try.func42, Try.ntmps42
  have HR1 := Lib.hid (HR.out.imp (fun b hb _ => hb))
  go_wp2_with (first | (go_at_call 46; refine new_c.mono ?_; rintro e w' ⟨rfl, rfl⟩) | (go_at_call 56; go_in))
  refine (dfb_dhcp_relay12 x0 x1 x2 x3 HN.out hc hm hLIM HX.out h34 HALL.out HRES.out HB.out (by omega) (HR1.out.keeps (by repeat (first | with_reducible assumption | with_reducible exact Keeps.refl _ _ | with_reducible refine Keeps.drew ?_ | with_reducible refine Keeps.alloc ?_ _ | with_reducible refine Keeps.setCell ?_ ?_ _ | omega | focus (simp; done) | focus (simp; omega)))) (by (try simp only [heap_drew]); repeat (first | (with_reducible refine heap_last ?_; focus (simp; done)) | with_reducible refine heap_past ?_))).mono ?_
  rintro e w1 ⟨hb1, ⟨hr0, b, rfl⟩ | ⟨ps, hr1, rfl, c1, c2, c3, ⟨v4, c4, h4⟩, ⟨v5, c5, h5⟩, ⟨v6, c6, h6⟩, iv, c7, hI⟩⟩
  · have HB1 := Lib.hid hb1
    have HR0 := Lib.hid hr0
    clear hb1 hr0
    go_wp2_with fail
    refine bodyPost_ret (v := .tuple #[.nilIface, .iface 178 (.pointer (some ⟨b, 0, none⟩))]) (by simp only [results, Try.results42]; go_simp) rfl ?_
    have hw : Below w.heap.size w w1 := by
      have h0 := Below.refl w.heap.size w
      refine Below.trans (b := _) ?_ (HB1.out.mono (by omega))
      exact (by repeat (first | with_reducible assumption | with_reducible refine Below.drew ?_ | with_reducible refine Below.alloc ?_ ?_ _ | with_reducible refine Below.setCell ?_ ?_ _ | with_reducible exact Nat.le_refl _ | omega | focus (simp; done) | focus (simp; omega)))
    exact ⟨(by repeat (first | with_reducible assumption | with_reducible refine Below.drew ?_ | with_reducible refine Below.alloc ?_ ?_ _ | with_reducible refine Below.setCell ?_ ?_ _ | with_reducible exact Nat.le_refl _ | omega | focus (simp; done) | focus (simp; omega))), .inl ⟨HR0.out, _, _, rfl⟩⟩
  · have k0 : w1.cell? ⟨w.heap.size, 0, none⟩ = some .nilIface := (hb1.cell (p := ⟨w.heap.size, 0, none⟩) (by simp; omega)).trans (by go_simp)
    have k1 : w1.frozen? ⟨w.heap.size, 0, none⟩ = false := (hb1.frozen (p := ⟨w.heap.size, 0, none⟩) (by simp; omega)).trans (by go_simp)
    have HB1 := Lib.hid hb1
    have HR0 := Lib.hid hr1
    have H4 := Lib.hid h4
    have H5 := Lib.hid h5
    have H6 := Lib.hid h6
    have HI := Lib.hid hI
    have C := Lib.hid (And.intro c1 (And.intro c2 (And.intro c3 (And.intro c4 (And.intro c5 (And.intro c6 c7))))))
    clear hb1 hr1 h4 h5 h6 hI c1 c2 c3 c4 c5 c6 c7
    go_wp2_with (go_at_call 125; refine (add_c k0 k1).mono ?_; rintro e w' ⟨rfl, rfl⟩)
    refine bodyPost_ret (v := .tuple #[.iface 111 (.pointer (some ⟨w.heap.size + 1 + 1, 0, none⟩)), .nilIface]) (by simp only [results, Try.results42]; go_simp) rfl ?_
    have hw : Below w.heap.size w w1 := by
      have h0 := Below.refl w.heap.size w
      refine Below.trans (b := _) ?_ (HB1.out.mono (by omega))
      exact (by repeat (first | with_reducible assumption | with_reducible refine Below.drew ?_ | with_reducible refine Below.alloc ?_ ?_ _ | with_reducible refine Below.setCell ?_ ?_ _ | with_reducible exact Nat.le_refl _ | omega | focus (simp; done) | focus (simp; omega)))
    have hk6 : Keeps (fun b => b ≠ w.heap.size) w1 (w1.setCell ⟨w.heap.size, 0, none⟩ (.iface 111 (.pointer (some ⟨w.heap.size + 1 + 1, 0, none⟩)))) := (Keeps.refl _ _).setCell (fun h => h rfl) _
    have hc6 : ∀ j u, w1.cell? ⟨w.heap.size + 1 + 1, j, none⟩ = some u → (w1.setCell ⟨w.heap.size, 0, none⟩ (.iface 111 (.pointer (some ⟨w.heap.size + 1 + 1, 0, none⟩)))).cell? ⟨w.heap.size + 1 + 1, j, none⟩ = some u := fun j u hu => hk6.cell (b := w.heap.size + 1 + 1) (by omega) hu
    have hs6 : ∀ v bs, SB w1 (· < w.heap.size) v bs → SB (w1.setCell ⟨w.heap.size, 0, none⟩ (.iface 111 (.pointer (some ⟨w.heap.size + 1 + 1, 0, none⟩)))) (fun _ => True) v bs := fun v bs h => (h.keeps (hk6.imp (fun b hb => by omega))).imp (fun _ _ _ => trivial)
    obtain ⟨c1, c2, c3, c4, c5, c6, c7⟩ := C.out
    have hlen : ps.length ≤ 2147483648 := dOpts_length (HRES.out.trans (by rw [HR0.out])) (by rw [HALL.out]; have := HN.out; simp; omega)
    exact ⟨(by repeat (first | with_reducible assumption | with_reducible refine Below.drew ?_ | with_reducible refine Below.alloc ?_ ?_ _ | with_reducible refine Below.setCell ?_ ?_ _ | with_reducible exact Nat.le_refl _ | omega | focus (simp; done) | focus (simp; omega))), .inr ⟨ps, _, .slice none 0 0, HR0.out, rfl, _, _, v4, v5, v6, _, _, _, iv, ps, [], rfl, hc6 1 _ c1, SB.nil _ _, hc6 2 _ c2, hc6 3 _ c3, hc6 4 _ c4, hs6 _ _ H4.out, hc6 5 _ c5, hs6 _ _ H5.out, hc6 6 _ c6, hs6 _ _ H6.out, hc6 7 _ c7, (HI.out.keeps (hk6.imp (fun b hb => by rcases hb with h | h <;> omega))).imp (Nat.zero_le _) (fun _ _ _ => trivial), by omega, by omega, by simp <;> omega, by simp <;> omega, by simp <;> omega, hlen⟩⟩

set_option maxRecDepth 100000 in
set_option maxHeartbeats 1000000 in
theorem decode_dhcp_relay13 {g o n c : Nat} (x0 x1 x2 x3 : Int) {rest : List Int} {w : World} (hn : n = rest.length + 4) (hc : n ≤ c) (hm : c ≤ 9223372036854775807) (hLIM : n ≤ 2147483648) (hx : x0 = 13) (h34 : 34 ≤ n) {all : List Int} (hAll : all = (x0 :: x1 :: x2 :: x3 :: rest).drop 34) {r : Option (List (List Int × List Int))} (hres : dOpts all = some r)
    (hall : ∀ z ∈ x0 :: x1 :: x2 :: x3 :: rest, 0 ≤ z ∧ z ≤ 255) (hr : RowAt w (fun _ => True) (some ⟨g, o, none⟩) ((x0 :: x1 :: x2 :: x3 :: rest).map (.int .u8))) :
    Calls Try.prog 42 #[.string ⟨#[100, 104, 99, 112, 118, 54]⟩, .slice (some ⟨g, o, none⟩) n c] w fun e w' => Below w.heap.size w w' ∧ ((r = none ∧ ∃ t u, e = .returned (.tuple #[.nilIface, .iface t u])) ∨
      ∃ ps X pl, r = some ps ∧ e = .returned (.tuple #[.iface 111 (.pointer (some ⟨X, 0, none⟩)), .nilIface]) ∧ IsDhcp w' X pl ⟨[x0, x1], [((x0 :: x1 :: x2 :: x3 :: rest).drop 2).take 16, ((x0 :: x1 :: x2 :: x3 :: rest).drop 18).take 16, []], ps, []⟩) := by
  have m2 := m_add
  have HR := Lib.hid hr
  have HB := Lib.hid hall
  have HN := Lib.hid hn
  have HRES := Lib.hid hres
  have HX := Lib.hid hx
  have HALL := Lib.hid hAll
  have h0 := hall x0 (by simp)
  have h1 := hall x1 (by simp)
  clear hr hall hn hres hx hAll
  go_enter Try.func42, Try.ntmps42
  have HR1 := Lib.hid (HR.out.imp (fun b hb _ => hb))
  go_wp2_with (first | (go_at_call 46; refine new_c.mono ?_; rintro e w' ⟨rfl, rfl⟩) | (go_at_call 56; go_in))
  refine (dfb_dhcp_relay13 x0 x1 x2 x3 HN.out hc hm hLIM HX.out h34 HALL.out HRES.out HB.out (by omega) (HR1.out.keeps (by repeat (first | with_reducible assumption | with_reducible exact Keeps.refl _ _ | with_reducible refine Keeps.drew ?_ | with_reducible refine Keeps.alloc ?_ _ | with_reducible refine Keeps.setCell ?_ ?_ _ | omega | focus (simp; done) | focus (simp; omega)))) (by (try simp only [heap_drew]); repeat (first | (with_reducible refine heap_last ?_; focus (simp; done)) | with_reducible refine heap_past ?_))).mono ?_
  rintro e w1 ⟨hb1, ⟨hr0, b, rfl⟩ | ⟨ps, hr1, rfl, c1, c2, c3, ⟨v4, c4, h4⟩, ⟨v5, c5, h5⟩, ⟨v6, c6, h6⟩, iv, c7, hI⟩⟩
  · have HB1 := Lib.hid hb1
    have HR0 := Lib.hid hr0
    clear hb1 hr0
    go_wp2_with fail
    refine bodyPost_ret (v := .tuple #[.nilIface, .iface 178 (.pointer (some ⟨b, 0, none⟩))]) (by simp only [results, Try.results42]; go_simp) rfl ?_
    have hw : Below w.heap.size w w1 := by
      have h0 := Below.refl w.heap.size w
      refine Below.trans (b := _) ?_ (HB1.out.mono (by omega))
      exact (by repeat (first | with_reducible assumption | with_reducible refine Below.drew ?_ | with_reducible refine Below.alloc ?_ ?_ _ | with_reducible refine Below.setCell ?_ ?_ _ | with_reducible exact Nat.le_refl _ | omega | focus (simp; done) | focus (simp; omega)))
    exact ⟨(by repeat (first | with_reducible assumption | with_reducible refine Below.drew ?_ | with_reducible refine Below.alloc ?_ ?_ _ | with_reducible refine Below.setCell ?_ ?_ _ | with_reducible exact Nat.le_refl _ | omega | focus (simp; done) | focus (simp; omega))), .inl ⟨HR0.out, _, _, rfl⟩⟩
  · have k0 : w1.cell? ⟨w.heap.size, 0, none⟩ = some .nilIface := (hb1.cell (p := ⟨w.heap.size, 0, none⟩) (by simp; omega)).trans (by go_simp)
    have k1 : w1.frozen? ⟨w.heap.size, 0, none⟩ = false := (hb1.frozen (p := ⟨w.heap.size, 0, none⟩) (by simp; omega)).trans (by go_simp)
    have HB1 := Lib.hid hb1
    have HR0 := Lib.hid hr1
    have H4 := Lib.hid h4
    have H5 := Lib.hid h5
    have H6 := Lib.hid h6
    have HI := Lib.hid hI
    have C := Lib.hid (And.intro c1 (And.intro c2 (And.intro c3 (And.intro c4 (And.intro c5 (And.intro c6 c7))))))
    clear hb1 hr1 h4 h5 h6 hI c1 c2 c3 c4 c5 c6 c7
    go_wp2_with (go_at_call 125; refine (add_c k0 k1).mono ?_; rintro e w' ⟨rfl, rfl⟩)
    refine bodyPost_ret (v := .tuple #[.iface 111 (.pointer (some ⟨w.heap.size + 1 + 1, 0, none⟩)), .nilIface]) (by simp only [results, Try.results42]; go_simp) rfl ?_
    have hw : Below w.heap.size w w1 := by
      have h0 := Below.refl w.heap.size w
      refine Below.trans (b := _) ?_ (HB1.out.mono (by omega))
      exact (by repeat (first | with_reducible assumption | with_reducible refine Below.drew ?_ | with_reducible refine Below.alloc ?_ ?_ _ | with_reducible refine Below.setCell ?_ ?_ _ | with_reducible exact Nat.le_refl _ | omega | focus (simp; done) | focus (simp; omega)))
    have hk6 : Keeps (fun b => b ≠ w.heap.size) w1 (w1.setCell ⟨w.heap.size, 0, none⟩ (.iface 111 (.pointer (some ⟨w.heap.size + 1 + 1, 0, none⟩)))) := (Keeps.refl _ _).setCell (fun h => h rfl) _
    have hc6 : ∀ j u, w1.cell? ⟨w.heap.size + 1 + 1, j, none⟩ = some u → (w1.setCell ⟨w.heap.size, 0, none⟩ (.iface 111 (.pointer (some ⟨w.heap.size + 1 + 1, 0, none⟩)))).cell? ⟨w.heap.size + 1 + 1, j, none⟩ = some u := fun j u hu => hk6.cell (b := w.heap.size + 1 + 1) (by omega) hu
    have hs6 : ∀ v bs, SB w1 (· < w.heap.size) v bs → SB (w1.setCell ⟨w.heap.size, 0, none⟩ (.iface 111 (.pointer (some ⟨w.heap.size + 1 + 1, 0, none⟩)))) (fun _ => True) v bs := fun v bs h => (h.keeps (hk6.imp (fun b hb => by omega))).imp (fun _ _ _ => trivial)
    obtain ⟨c1, c2, c3, c4, c5, c6, c7⟩ := C.out
    have hlen : ps.length ≤ 2147483648 := dOpts_length (HRES.out.trans (by rw [HR0.out])) (by rw [HALL.out]; have := HN.out; simp; omega)
    exact ⟨(by repeat (first | with_reducible assumption | with_reducible refine Below.drew ?_ | with_reducible refine Below.alloc ?_ ?_ _ | with_reducible refine Below.setCell ?_ ?_ _ | with_reducible exact Nat.le_refl _ | omega | focus (simp; done) | focus (simp; omega))), .inr ⟨ps, _, .slice none 0 0, HR0.out, rfl, _, _, v4, v5, v6, _, _, _, iv, ps, [], rfl, hc6 1 _ c1, SB.nil _ _, hc6 2 _ c2, hc6 3 _ c3, hc6 4 _ c4, hs6 _ _ H4.out, hc6 5 _ c5, hs6 _ _ H5.out, hc6 6 _ c6, hs6 _ _ H6.out, hc6 7 _ c7, (HI.out.keeps (hk6.imp (fun b hb => by rcases hb with h | h <;> omega))).imp (Nat.zero_le _) (fun _ _ _ => trivial), by omega, by omega, by simp <;> omega, by simp <;> omega, by simp <;> omega, hlen⟩⟩

set_option maxRecDepth 100000 in
set_option maxHeartbeats 1000000 in
theorem decode_dhcp_short {p : Option Addr} {n c : Nat} {w : World} (hn : n < 4) :
    Calls Try.prog 42 #[.string ⟨#[100, 104, 99, 112, 118, 54]⟩, .slice p n c] w fun e w' =>
      (∃ t v, e = .returned (.tuple #[.nilIface, .iface t v])) ∧ Below w.heap.size w w' := by
  have m2 := m_trunc
  go_enter Try.func42, Try.ntmps42
  go_wp2_with (first | (go_at_call 46; refine new_c.mono ?_; rintro e w' ⟨rfl, rfl⟩) | (go_at_call 126; refine trunc_c.mono ?_; rintro e w' ⟨rfl, rfl⟩) | (go_at_call 56; go_in) | (go_at_call 67; go_in))
  refine bodyPost_ret (v := .tuple #[.nilIface, .iface 178 (.pointer (some ⟨w.heap.size + 1 + 1 + 1, 0, none⟩))]) (by simp only [results, Try.results42]; go_simp) rfl ?_
  have h0 := Below.refl w.heap.size w
  exact ⟨⟨_, _, rfl⟩, (by repeat (first | with_reducible assumption | with_reducible refine Below.drew ?_ | with_reducible refine Below.alloc ?_ ?_ _ | with_reducible refine Below.setCell ?_ ?_ _ | with_reducible exact Nat.le_refl _ | omega | focus (simp; done) | focus (simp; omega)))⟩

end Go.Proofs.Ytaofambmajlhmaa
