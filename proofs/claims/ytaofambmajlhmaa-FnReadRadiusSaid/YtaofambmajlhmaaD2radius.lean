/-
  The decoder of radius, from the kind on; what the bytes are.
-/
import Derived.Test.YtaofambmajlhmaaDradius
import Derived.Test.YtaofambmajlhmaaS2radius
namespace Go.Proofs.Ytaofambmajlhmaa
open Go Go.RowKit

theorem dAttrs_length : ∀ (m : Nat) (l : List Int) (ps : List (List Int × List Int)), l.length ≤ m → dAttrs l = some (some ps) → ps.length ≤ l.length ∧ (rPay ps).length ≤ l.length := by
  intro m
  induction m with
  | zero =>
    intro l ps hl h
    obtain rfl := List.eq_nil_of_length_eq_zero (by omega : l.length = 0)
    rw [dAttrs_nil] at h
    simp at h
    subst h
    simp [rPay]
  | succ m ih =>
    intro l ps hl h
    match l, h, hl with
    | [], h, _ =>
      rw [dAttrs_nil] at h
      simp at h
      subst h
      simp [rPay]
    | [a], h, _ =>
      rw [dAttrs_one] at h
      simp at h
    | a :: b :: rest, h, hl =>
      by_cases hb : b < 2 ∨ rest.length + 2 < b.toNat
      · rw [dAttrs_bad hb] at h
        simp at h
      · by_cases h2 : b = 2
        · subst h2
          rw [dAttrs_open] at h
          cases h
        · rw [dAttrs_more (K := b.toNat - 2) (by omega) (by omega) (by omega)] at h
          cases hr : dAttrs (rest.drop (b.toNat - 2)) with
          | none => rw [hr] at h; cases h
          | some x =>
            cases x with
            | none => rw [hr] at h; simp at h
            | some qs =>
              rw [hr] at h
              simp at h
              have := ih _ qs (by simp at hl ⊢; omega) hr
              rw [List.length_drop] at this
              subst h
              refine ⟨by simp; omega, ?_⟩
              have e : rPay (([a, b], rest.take (b.toNat - 2)) :: qs) = (if a = 79 then rest.take (b.toNat - 2) else []) ++ rPay qs := by by_cases h : a = 79 <;> simp [rPay, h]
              rw [e, List.length_append]
              split
              · rw [List.length_take, List.length_cons, List.length_cons]; omega
              · rw [List.length_cons, List.length_cons]; simp; omega

/-- A RADIUS at X. -/
def IsRadius (w : World) (X : Nat) (pl : Value) (l : Lay) : Prop :=
  ∃ (a b n : Int) (auth : List Int) (iv : Value) (ps : List (List Int × List Int)) (pay : List Int), l = ⟨[a, b, n], [auth], ps, pay⟩ ∧ w.cell? ⟨X, 1, none⟩ = some pl ∧ SB w (fun _ => True) pl pay ∧
    w.cell? ⟨X, 2, none⟩ = some (.int .u8 a) ∧ w.cell? ⟨X, 3, none⟩ = some (.int .u8 b) ∧ w.cell? ⟨X, 4, none⟩ = some (.int .u16 n) ∧ (∀ i x, auth[i]? = some x → w.cell? ⟨X, 5 + i, none⟩ = some (.int .u8 x)) ∧ auth.length = 16 ∧
    w.cell? ⟨X, 21, none⟩ = some iv ∧ Rows eA w 0 (fun _ => True) 133 iv ps ∧
    (0 ≤ a ∧ a ≤ 255) ∧ (0 ≤ b ∧ b ≤ 255) ∧ (0 ≤ n ∧ n < 65536) ∧ ps.length ≤ 2147483648 ∧ pay.length ≤ 1000000
theorem isRadius_below {w w' : World} {X : Nat} {pl : Value} {l : Lay} (k : Below w.heap.size w w') (hI : IsRadius w X pl l) : IsRadius w' X pl l := by
  obtain ⟨a, b, n, auth, iv, ps, pay, rfl, c1, hp, c2, c3, c4, h4, hl, c7, hI, b1, b2, b3, b4, b5⟩ := hI
  have hc : ∀ j u, w.cell? ⟨X, j, none⟩ = some u → w'.cell? ⟨X, j, none⟩ = some u := fun j u hu => (k.cell (p := ⟨X, j, none⟩) (World.block_lt_of_cell? _ _ hu)).trans hu
  exact ⟨a, b, n, auth, iv, ps, pay, rfl, hc _ _ c1, hp.keeps (Keeps.of_below k), hc _ _ c2, hc _ _ c3, hc _ _ c4, fun i x hx => hc _ _ (h4 i x hx), hl, hc _ _ c7, hI.keeps (Keeps.of_below k), b1, b2, b3, b4, b5⟩
theorem isRadius_pl {w : World} {X : Nat} {pl : Value} {l : Lay} (hI : IsRadius w X pl l) : w.cell? ⟨X, 1, none⟩ = some pl := by
  obtain ⟨a, b, n, auth, iv, ps, pay, rfl, c1, _⟩ := hI
  exact c1

set_option maxRecDepth 100000 in
set_option maxHeartbeats 1000000 in
theorem decode_radius {g o n c : Nat} (x0 x1 x2 x3 : Int) {rest : List Int} {w : World} (hn : n = rest.length + 4) (h20 : 20 ≤ n) (hc : n ≤ c) (hm : c ≤ 9223372036854775807) (hLIM : n ≤ 2000) (hx : x2 * 256 + x3 = (n : Int)) {all : List Int} (hAll : all = (x0 :: x1 :: x2 :: x3 :: rest).drop 20) {r : Option (List (List Int × List Int))} (hres : dAttrs all = some r)
    (hall : ∀ z ∈ x0 :: x1 :: x2 :: x3 :: rest, 0 ≤ z ∧ z ≤ 255) (hr : RowAt w (fun _ => True) (some ⟨g, o, none⟩) ((x0 :: x1 :: x2 :: x3 :: rest).map (.int .u8))) :
    Calls Try.prog 42 #[.string ⟨#[114, 97, 100, 105, 117, 115]⟩, .slice (some ⟨g, o, none⟩) n c] w fun e w' => Below w.heap.size w w' ∧ ((r = none ∧ ∃ t u, e = .returned (.tuple #[.nilIface, .iface t u])) ∨
      ∃ ps X pl, r = some ps ∧ e = .returned (.tuple #[.iface 120 (.pointer (some ⟨X, 0, none⟩)), .nilIface]) ∧ IsRadius w' X pl ⟨[x0, x1, (n : Int)], [((x0 :: x1 :: x2 :: x3 :: rest).drop 4).take 16], ps, rPay ps⟩) := by
  have m2 := m_add
  have HR := Lib.hid hr
  have HB := Lib.hid hall
  have HN := Lib.hid hn
  have HRES := Lib.hid hres
  have HX := Lib.hid hx
  have HALL := Lib.hid hAll
  have h0 := hall x0 (by simp)
  have h1 := hall x1 (by simp)
  clear hr hall hn hres hx hAll
  obtain ⟨auth, hau⟩ : ∃ a, a = ((x0 :: x1 :: x2 :: x3 :: rest).drop 4).take 16 := ⟨_, rfl⟩
  have HAU := Lib.hid hau
  rw [← hau]
  clear hau
  go_enter Try.func42, Try.ntmps42
  have HR1 := Lib.hid (HR.out.imp (fun b hb _ => hb))
  go_wp2_with (first | (go_at_call 46; refine new_c.mono ?_; rintro e w' ⟨rfl, rfl⟩) | (go_at_call 57; go_in))
  refine (dfb_radius x0 x1 x2 x3 HN.out h20 hc hm hLIM HX.out HALL.out HRES.out HB.out (by omega) (HR1.out.keeps (by repeat (first | with_reducible assumption | with_reducible exact Keeps.refl _ _ | with_reducible refine Keeps.drew ?_ | with_reducible refine Keeps.drewN ?_ _ | with_reducible refine Keeps.alloc ?_ _ | with_reducible refine Keeps.setCell ?_ ?_ _ | omega | focus (simp; done) | focus (simp; omega)))) (by (try simp only [heap_drew]); repeat (first | (with_reducible refine heap_last ?_; focus (simp; done)) | with_reducible refine heap_past ?_))).mono ?_
  rintro e w1 ⟨hb1, ⟨hr0, b, rfl⟩ | ⟨ps, hr1, rfl, ⟨pl, c1, hp⟩, c2, c3, c4, h4, iv, c7, hI⟩⟩
  · have HB1 := Lib.hid hb1
    have HR0 := Lib.hid hr0
    clear hb1 hr0
    go_wp2_with fail
    refine bodyPost_ret (v := .tuple #[.nilIface, .iface 178 (.pointer (some ⟨b, 0, none⟩))]) (by simp only [results, Try.results42]; go_simp) rfl ?_
    have hw : Below w.heap.size w w1 := by
      have h0 := Below.refl w.heap.size w
      refine Below.trans (b := _) ?_ (HB1.out.mono (by omega))
      exact (by repeat (first | with_reducible assumption | with_reducible refine Below.drew ?_ | with_reducible refine below_drewN' ?_ _ | with_reducible refine Below.alloc ?_ ?_ _ | with_reducible refine Below.setCell ?_ ?_ _ | with_reducible exact Nat.le_refl _ | omega | focus (simp; done) | focus (simp; omega)))
    exact ⟨(by repeat (first | with_reducible assumption | with_reducible refine Below.drew ?_ | with_reducible refine below_drewN' ?_ _ | with_reducible refine Below.alloc ?_ ?_ _ | with_reducible refine Below.setCell ?_ ?_ _ | with_reducible exact Nat.le_refl _ | omega | focus (simp; done) | focus (simp; omega))), .inl ⟨HR0.out, _, _, rfl⟩⟩
  · have k0 : w1.cell? ⟨w.heap.size, 0, none⟩ = some .nilIface := (hb1.cell (p := ⟨w.heap.size, 0, none⟩) (by simp; omega)).trans (by go_simp)
    have k1 : w1.frozen? ⟨w.heap.size, 0, none⟩ = false := (hb1.frozen (p := ⟨w.heap.size, 0, none⟩) (by simp; omega)).trans (by go_simp)
    have HB1 := Lib.hid hb1
    have HR0 := Lib.hid hr1
    have H4 := Lib.hid h4
    have HP := Lib.hid hp
    have HI := Lib.hid hI
    have C := Lib.hid (And.intro c1 (And.intro c2 (And.intro c3 (And.intro c4 c7))))
    clear hb1 hr1 h4 hp hI c1 c2 c3 c4 c7
    go_wp2_with (go_at_call 125; refine (add_c k0 k1).mono ?_; rintro e w' ⟨rfl, rfl⟩)
    refine bodyPost_ret (v := .tuple #[.iface 120 (.pointer (some ⟨w.heap.size + 1 + 1, 0, none⟩)), .nilIface]) (by simp only [results, Try.results42]; go_simp) rfl ?_
    have hw : Below w.heap.size w w1 := by
      have h0 := Below.refl w.heap.size w
      refine Below.trans (b := _) ?_ (HB1.out.mono (by omega))
      exact (by repeat (first | with_reducible assumption | with_reducible refine Below.drew ?_ | with_reducible refine below_drewN' ?_ _ | with_reducible refine Below.alloc ?_ ?_ _ | with_reducible refine Below.setCell ?_ ?_ _ | with_reducible exact Nat.le_refl _ | omega | focus (simp; done) | focus (simp; omega)))
    have hk6 : Keeps (fun b => b ≠ w.heap.size) w1 (w1.setCell ⟨w.heap.size, 0, none⟩ (.iface 120 (.pointer (some ⟨w.heap.size + 1 + 1, 0, none⟩)))) := (Keeps.refl _ _).setCell (fun h => h rfl) _
    have hc6 : ∀ j u, w1.cell? ⟨w.heap.size + 1 + 1, j, none⟩ = some u → (w1.setCell ⟨w.heap.size, 0, none⟩ (.iface 120 (.pointer (some ⟨w.heap.size + 1 + 1, 0, none⟩)))).cell? ⟨w.heap.size + 1 + 1, j, none⟩ = some u := fun j u hu => hk6.cell (b := w.heap.size + 1 + 1) (by omega) hu
    obtain ⟨c1, c2, c3, c4, c7⟩ := C.out
    obtain ⟨hlen, hlp⟩ := dAttrs_length _ _ ps (Nat.le_refl _) (HRES.out.trans (by rw [HR0.out]))
    have hal : all.length ≤ 2000 := by rw [HALL.out]; have := HN.out; simp; omega
    have hau : auth.length = 16 := by rw [HAU.out, List.length_take, List.length_drop]; have := HN.out; simp; omega
    exact ⟨(by repeat (first | with_reducible assumption | with_reducible refine Below.drew ?_ | with_reducible refine below_drewN' ?_ _ | with_reducible refine Below.alloc ?_ ?_ _ | with_reducible refine Below.setCell ?_ ?_ _ | with_reducible exact Nat.le_refl _ | omega | focus (simp; done) | focus (simp; omega))), .inr ⟨ps, _, pl, HR0.out, rfl, _, _, _, _, iv, ps, _, rfl, hc6 1 _ c1, (HP.out.keeps (hk6.imp (fun b hb => by omega))).imp (fun _ _ _ => trivial), hc6 2 _ c2, hc6 3 _ c3, hc6 4 _ c4, fun i x hx => hc6 _ _ (H4.out i x (by rw [← HAU.out]; exact hx)), hau, hc6 21 _ c7, (HI.out.keeps (hk6.imp (fun b hb => by rcases hb with h | h <;> omega))).imp (Nat.zero_le _) (fun _ _ _ => trivial), h0, h1, by omega, by omega, by omega⟩⟩

set_option maxRecDepth 100000 in
set_option maxHeartbeats 1000000 in
theorem decode_radius_short {p : Option Addr} {n c : Nat} {w : World} (hn : n < 20) :
    Calls Try.prog 42 #[.string ⟨#[114, 97, 100, 105, 117, 115]⟩, .slice p n c] w fun e w' =>
      (∃ t v, e = .returned (.tuple #[.nilIface, .iface t v])) ∧ Below w.heap.size w w' := by
  have m2 := m_trunc
  have hn1 : ¬ (4096 : Int) < (n : Int) := by omega
  have hn2 : (n : Int) < 20 := by omega
  go_enter Try.func42, Try.ntmps42
  go_wp2_with (first | (go_at_call 46; refine new_c.mono ?_; rintro e w' ⟨rfl, rfl⟩) | (go_at_call 126; refine trunc_c.mono ?_; rintro e w' ⟨rfl, rfl⟩) | (go_at_call 57; go_in) | (go_at_call 68; go_in))
  refine bodyPost_ret (v := .tuple #[.nilIface, .iface 178 (.pointer (some ⟨w.heap.size + 1 + 1 + 1, 0, none⟩))]) (by simp only [results, Try.results42]; go_simp) rfl ?_
  have h0 := Below.refl w.heap.size w
  exact ⟨⟨_, _, rfl⟩, (by repeat (first | with_reducible assumption | with_reducible refine Below.drew ?_ | with_reducible refine below_drewN' ?_ _ | with_reducible refine Below.alloc ?_ ?_ _ | with_reducible refine Below.setCell ?_ ?_ _ | with_reducible exact Nat.le_refl _ | omega | focus (simp; done) | focus (simp; omega)))⟩

theorem decOf_radius {bs : List Int} {r : Option Lay} (hb : ∀ z ∈ bs, 0 ≤ z ∧ z ≤ 255) (hlim : bs.length ≤ 2000) (hs : sRadius bs = some r) : DecOf (.string ⟨#[114, 97, 100, 105, 117, 115]⟩) bs r 120 IsRadius := by
  intro v w h
  obtain ⟨p, c, rfl, hnc, hc, hp, hr⟩ := h
  rcases sRadius_cases hs with ⟨h20, rfl⟩ | ⟨x0, x1, x2, x3, rest, q, hbs, h20, hx, hq, rfl⟩
  · exact (decode_radius_short h20).mono fun e w' h => ⟨h.2, .inl ⟨rfl, h.1⟩⟩
  · subst hbs
    rcases hr with h | ⟨b, o, rfl, g1, g2, g3⟩
    · simp at h
    · have hr' : RowAt w (fun _ => True) (some ⟨b, o, none⟩) ((x0 :: x1 :: x2 :: x3 :: rest).map (.int .u8)) := .inr ⟨b, o, rfl, g1, g2, g3⟩
      refine (decode_radius x0 x1 x2 x3 (rest := rest) (by simp) h20 hnc hc hlim hx rfl hq hb hr').mono ?_
      rintro e w' ⟨hbel, ⟨rfl, h2⟩ | ⟨ps, X, pl, rfl, h3, h4⟩⟩
      · exact ⟨hbel, .inl ⟨rfl, h2⟩⟩
      · exact ⟨hbel, .inr ⟨_, X, pl, rfl, h3, h4⟩⟩
end Go.Proofs.Ytaofambmajlhmaa
