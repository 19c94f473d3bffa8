/-
  The decoder of mldreport2, from the kind on; what the bytes are.
-/
import Derived.Test.YtmpifdanfnebpaaGreatDreport
namespace Go.Proofs.YtmpifdanfnebpaaGreat
open Go Go.RowKit

theorem dRecs_length : ∀ (M : Nat) (l : List Int) (ps : List (List Int × List Int)), dRecs M l = some ps → ps.length = M := by
  intro M
  induction M with
  | zero =>
    intro l ps h
    simp [dRecs] at h
    subst h
    rfl
  | succ M ih =>
    intro l ps h
    match l, h with
    | a :: b :: c :: d :: rest, h =>
      simp only [dRecs] at h
      split at h
      · cases hr : dRecs M (rest.drop (16 + (16 * (c * 256 + d).toNat + 4 * b.toNat))) with
        | none => rw [hr] at h; cases h
        | some qs =>
          rw [hr] at h
          simp at h
          have := ih _ _ hr
          rw [← h]
          simp [this]
      · cases h
    | [], h => cases h
    | [_], h => cases h
    | [_, _], h => cases h
    | [_, _, _], h => cases h

theorem m_report (k : Nat) (a : Addr) (w : World) : (method (k + 1) 100 (.pointer (some a)) "DecodeFromBytes").run Tryz.prog w = .ok (110, .pointer (some a)) w := by kernel_rfl

/-- A report of MLDv2 at X. -/
def IsReport (w : World) (X : Nat) (pl : Value) (l : Lay) : Prop :=
  ∃ (m : Int) (iv : Value) (ps : List (List Int × List Int)) (pay : List Int), l = ⟨[m], [], ps, pay⟩ ∧ w.cell? ⟨X, 1, none⟩ = some pl ∧ SB w (fun _ => True) pl pay ∧ w.cell? ⟨X, 2, none⟩ = some (.int .u16 m) ∧
    w.cell? ⟨X, 3, none⟩ = some iv ∧ Rows eM w 0 (fun _ => True) 106 iv ps ∧ (0 ≤ m ∧ m < 65536) ∧ ps.length ≤ 65536
theorem isReport_below {w w' : World} {X : Nat} {pl : Value} {l : Lay} (k : Below w.heap.size w w') (hI : IsReport w X pl l) : IsReport w' X pl l := by
  obtain ⟨m, iv, ps, pay, rfl, c1, hp, c2, c3, hI, b1, b2⟩ := hI
  have hc : ∀ j u, w.cell? ⟨X, j, none⟩ = some u → w'.cell? ⟨X, j, none⟩ = some u := fun j u hu => (k.cell (p := ⟨X, j, none⟩) (World.block_lt_of_cell? _ _ hu)).trans hu
  exact ⟨m, iv, ps, pay, rfl, hc _ _ c1, hp.keeps (Keeps.of_below k), hc _ _ c2, hc _ _ c3, hI.keeps (Keeps.of_below k), b1, b2⟩
theorem isReport_pl {w : World} {X : Nat} {pl : Value} {l : Lay} (hI : IsReport w X pl l) : w.cell? ⟨X, 1, none⟩ = some pl := by
  obtain ⟨m, iv, ps, pay, rfl, c1, _⟩ := hI
  exact c1

set_option maxRecDepth 100000 in
set_option maxHeartbeats 1000000 in
theorem decode_report {g o n c M : Nat} (x0 x1 x2 x3 : Int) {rest : List Int} {w : World} (hn : n = rest.length + 4) (hc : n ≤ c) (hm : c ≤ 9223372036854775807) (hLIM : n ≤ 2147483648) (hM : x2 * 256 + x3 = (M : Int)) {r : Option (List (List Int × List Int))} (hres : dRecs M ((x0 :: x1 :: x2 :: x3 :: rest).drop 4) = r)
    (hall : ∀ z ∈ x0 :: x1 :: x2 :: x3 :: rest, 0 ≤ z ∧ z ≤ 255) (hr : RowAt w (fun _ => True) (some ⟨g, o, none⟩) ((x0 :: x1 :: x2 :: x3 :: rest).map (.int .u8))) :
    Calls Tryz.prog 36 #[.string ⟨#[109, 108, 100, 114, 101, 112, 111, 114, 116, 50]⟩, .slice (some ⟨g, o, none⟩) n c] w fun e w' => Below w.heap.size w w' ∧ ((r = none ∧ ∃ t u, e = .returned (.tuple #[.nilIface, .iface t u])) ∨
      ∃ ps X pl, r = some ps ∧ e = .returned (.tuple #[.iface 100 (.pointer (some ⟨X, 0, none⟩)), .nilIface]) ∧ IsReport w' X pl ⟨[(M : Int)], [], ps, []⟩) := by
  have m1 := m_report
  have m2 := m_add
  have HR := Lib.hid hr
  have HB := Lib.hid hall
  have HN := Lib.hid hn
  have HRES := Lib.hid hres
  have h2 := hall x2 (by simp)
  have h3 := hall x3 (by simp)
  clear hr hall hn hres
  go_enter Tryz.func36, Tryz.ntmps36
  have HR1 := Lib.hid (HR.out.imp (fun b hb _ => hb))
  go_wp2_with (first | (go_at_call 38; refine new_c.mono ?_; rintro e w' ⟨rfl, rfl⟩) | (go_at_call 47; go_in) | (go_at_call 58; go_in))
  refine (dfb_report x0 x1 x2 x3 HN.out hc hm hLIM hM rfl HRES.out HB.out (by omega) (HR1.out.keeps (by repeat (first | with_reducible assumption | with_reducible exact Keeps.refl _ _ | with_reducible refine Keeps.drew ?_ | with_reducible refine Keeps.drewN ?_ _ | with_reducible refine Keeps.alloc ?_ _ | with_reducible refine Keeps.setCell ?_ ?_ _ | omega | focus (simp; done) | focus (simp; omega)))) (by (try simp only [heap_drew]); repeat (first | (with_reducible refine heap_last ?_; focus (simp; done)) | with_reducible refine heap_past ?_))).mono ?_
  rintro e w1 ⟨hb1, ⟨hr0, b, rfl⟩ | ⟨ps, hr1, rfl, c1, c2, iv, c3, hI⟩⟩
  · have HB1 := Lib.hid hb1
    have HR0 := Lib.hid hr0
    clear hb1 hr0
    go_wp2_with fail
    refine bodyPost_ret (v := .tuple #[.nilIface, .iface 201 (.pointer (some ⟨b, 0, none⟩))]) (by simp only [results, Tryz.results36]; go_simp) rfl ?_
    have hw : Below w.heap.size w w1 := by
      have h0 := Below.refl w.heap.size w
      refine Below.trans (b := _) ?_ (HB1.out.mono (by omega))
      exact (by repeat (first | with_reducible assumption | with_reducible refine Below.drew ?_ | with_reducible refine below_drewN' ?_ _ | with_reducible refine Below.alloc ?_ ?_ _ | with_reducible refine Below.setCell ?_ ?_ _ | with_reducible exact Nat.le_refl _ | omega | focus (simp; done) | focus (simp; omega)))
    exact ⟨(by repeat (first | with_reducible assumption | with_reducible refine Below.drew ?_ | with_reducible refine below_drewN' ?_ _ | with_reducible refine Below.alloc ?_ ?_ _ | with_reducible refine Below.setCell ?_ ?_ _ | with_reducible exact Nat.le_refl _ | omega | focus (simp; done) | focus (simp; omega))), .inl ⟨HR0.out, _, _, rfl⟩⟩
  · have k0 : w1.cell? ⟨w.heap.size, 0, none⟩ = some .nilIface := (hb1.cell (p := ⟨w.heap.size, 0, none⟩) (by simp; omega)).trans (by go_simp)
    have k1 : w1.frozen? ⟨w.heap.size, 0, none⟩ = false := (hb1.frozen (p := ⟨w.heap.size, 0, none⟩) (by simp; omega)).trans (by go_simp)
    have HB1 := Lib.hid hb1
    have HR0 := Lib.hid hr1
    have HI := Lib.hid hI
    have C := Lib.hid (And.intro c1 (And.intro c2 c3))
    clear hb1 hr1 hI c1 c2 c3
    go_wp2_with (go_at_call 151; refine (add_c k0 k1).mono ?_; rintro e w' ⟨rfl, rfl⟩)
    refine bodyPost_ret (v := .tuple #[.iface 100 (.pointer (some ⟨w.heap.size + 1 + 1, 0, none⟩)), .nilIface]) (by simp only [results, Tryz.results36]; go_simp) rfl ?_
    have hw : Below w.heap.size w w1 := by
      have h0 := Below.refl w.heap.size w
      refine Below.trans (b := _) ?_ (HB1.out.mono (by omega))
      exact (by repeat (first | with_reducible assumption | with_reducible refine Below.drew ?_ | with_reducible refine below_drewN' ?_ _ | with_reducible refine Below.alloc ?_ ?_ _ | with_reducible refine Below.setCell ?_ ?_ _ | with_reducible exact Nat.le_refl _ | omega | focus (simp; done) | focus (simp; omega)))
    have hk6 : Keeps (fun b => b ≠ w.heap.size) w1 (w1.setCell ⟨w.heap.size, 0, none⟩ (.iface 100 (.pointer (some ⟨w.heap.size + 1 + 1, 0, none⟩)))) := (Keeps.refl _ _).setCell (fun h => h rfl) _
    have hc6 : ∀ j u, w1.cell? ⟨w.heap.size + 1 + 1, j, none⟩ = some u → (w1.setCell ⟨w.heap.size, 0, none⟩ (.iface 100 (.pointer (some ⟨w.heap.size + 1 + 1, 0, none⟩)))).cell? ⟨w.heap.size + 1 + 1, j, none⟩ = some u := fun j u hu => hk6.cell (b := w.heap.size + 1 + 1) (by omega) hu
    obtain ⟨c1, c2, c3⟩ := C.out
    have hlen : ps.length = M := dRecs_length M _ _ (HRES.out.trans HR0.out)
    exact ⟨(by repeat (first | with_reducible assumption | with_reducible refine Below.drew ?_ | with_reducible refine below_drewN' ?_ _ | with_reducible refine Below.alloc ?_ ?_ _ | with_reducible refine Below.setCell ?_ ?_ _ | with_reducible exact Nat.le_refl _ | omega | focus (simp; done) | focus (simp; omega))), .inr ⟨ps, _, .slice none 0 0, HR0.out, rfl, _, iv, ps, [], rfl, hc6 1 _ c1, SB.nil _ _, hc6 2 _ c2, hc6 3 _ c3, (HI.out.keeps (hk6.imp (fun b hb => by omega))).imp (Nat.zero_le _) (fun _ _ _ => trivial), ⟨by omega, by omega⟩, by omega⟩⟩

set_option maxRecDepth 100000 in
set_option maxHeartbeats 1000000 in
theorem decode_report_short {p : Option Addr} {n c : Nat} {w : World} (hn : n < 4) :
    Calls Tryz.prog 36 #[.string ⟨#[109, 108, 100, 114, 101, 112, 111, 114, 116, 50]⟩, .slice p n c] w fun e w' =>
      (∃ t v, e = .returned (.tuple #[.nilIface, .iface t v])) ∧ Below w.heap.size w w' := by
  have m1 := m_report
  have m2 := m_trunc
  go_enter Tryz.func36, Tryz.ntmps36
  go_wp2_with (first | (go_at_call 38; refine new_c.mono ?_; rintro e w' ⟨rfl, rfl⟩) | (go_at_call 152; refine trunc_c.mono ?_; rintro e w' ⟨rfl, rfl⟩) | (go_at_call 47; go_in) | (go_at_call 110; go_in) | (go_at_call 58; go_in))
  refine bodyPost_ret (v := .tuple #[.nilIface, .iface 201 (.pointer (some ⟨w.heap.size + 1 + 1 + 1, 0, none⟩))]) (by simp only [results, Tryz.results36]; go_simp) rfl ?_
  have h0 := Below.refl w.heap.size w
  exact ⟨⟨_, _, rfl⟩, (by repeat (first | with_reducible assumption | with_reducible refine Below.drew ?_ | with_reducible refine below_drewN' ?_ _ | with_reducible refine Below.alloc ?_ ?_ _ | with_reducible refine Below.setCell ?_ ?_ _ | with_reducible exact Nat.le_refl _ | omega | focus (simp; done) | focus (simp; omega)))⟩

/-- The data of the bytes. -/
def dReport : List Int → Option Lay
  | x0 :: x1 :: x2 :: x3 :: rest => (dRecs (x2 * 256 + x3).toNat ((x0 :: x1 :: x2 :: x3 :: rest).drop 4)).map (fun ps => (⟨[((x2 * 256 + x3).toNat : Int)], [], ps, []⟩ : Lay))
  | _ => none
theorem dReport_short {bs : List Int} (h : bs.length < 4) : dReport bs = none := by
  unfold dReport
  split
  · simp at h
    omega
  · rfl

theorem decOf_report {bs : List Int} (hb : ∀ z ∈ bs, 0 ≤ z ∧ z ≤ 255) (hlim : bs.length ≤ 2147483648) : DecOf (.string ⟨#[109, 108, 100, 114, 101, 112, 111, 114, 116, 50]⟩) bs (dReport bs) 100 IsReport := by
  intro v w h
  obtain ⟨p, c, rfl, hnc, hc, hp, hr⟩ := h
  rcases Nat.lt_or_ge bs.length 4 with h4 | h4
  · rw [dReport_short h4]
    exact (decode_report_short h4).mono fun e w' h => ⟨h.2, .inl ⟨rfl, h.1⟩⟩
  · obtain ⟨x0, x1, x2, x3, rest, rfl⟩ := four h4
    rcases hr with h | ⟨b, o, rfl, g1, g2, g3⟩
    · simp at h
    · have hr' : RowAt w (fun _ => True) (some ⟨b, o, none⟩) ((x0 :: x1 :: x2 :: x3 :: rest).map (.int .u8)) := .inr ⟨b, o, rfl, g1, g2, g3⟩
      have h2 := hb x2 (by simp)
      have h3 := hb x3 (by simp)
      refine (decode_report x0 x1 x2 x3 (rest := rest) (M := (x2 * 256 + x3).toNat) (by simp) hnc hc hlim (by omega) rfl hb hr').mono ?_
      rintro e w' ⟨hbel, ⟨h1, h2⟩ | ⟨ps, X, pl, h1, h2, h3⟩⟩
      · exact ⟨hbel, .inl ⟨by simp only [dReport]; rw [h1]; rfl, h2⟩⟩
      · exact ⟨hbel, .inr ⟨_, X, pl, by simp only [dReport]; rw [h1]; rfl, h2, h3⟩⟩
end Go.Proofs.YtmpifdanfnebpaaGreat
