/-
  The decoder of tls, from the kind on; what the bytes are.
-/
import Derived.Test.YtehdhnjimmplhaaDtls
import Derived.Test.YtehdhnjimmplhaaS2tls
namespace Go.Proofs.Ytehdhnjimmplhaa
open Go Go.RowKit

theorem dTls_length : ∀ (m : Nat) (l : List Int) (rs : List (Nat × (List Int × List Int))), l.length ≤ m → dTls l = some (some rs) → rs.length ≤ l.length := by
  intro m
  induction m with
  | zero =>
    intro l rs hl h
    obtain rfl := List.eq_nil_of_length_eq_zero (by omega : l.length = 0)
    rw [dTls_nil] at h
    simp at h
    subst h
    simp
  | succ m ih =>
    intro l rs hl h
    by_cases h0 : l = []
    · subst h0
      rw [dTls_nil] at h
      simp at h
      subst h
      simp
    · by_cases h5 : l.length < 5
      · rw [dTls_few h0 h5] at h
        simp at h
      · obtain ⟨a, b, c, d, e, rest, rfl⟩ := five (l := l) (by omega)
        by_cases hk : a < 20 ∨ 23 < a
        · rw [dTls_kind hk] at h
          simp at h
        · rw [dTls, if_neg hk] at h
          split at h
          · simp at h
          · split at h
            · cases h
            · rename_i x _
              cases hr : dTls (rest.drop (d * 256 + e).toNat) with
              | none => rw [hr] at h; cases h
              | some y =>
                cases y with
                | none => rw [hr] at h; simp at h
                | some qs =>
                  rw [hr] at h
                  simp at h
                  have := ih _ qs (by simp at hl ⊢; omega) hr
                  rw [List.length_drop] at this
                  subst h
                  simp
                  omega
theorem tOf_le2 (i : Nat) (rs : List (Nat × (List Int × List Int))) : (tOf i rs).length ≤ rs.length := List.length_filterMap_le _ _

/-- A TLS at X. -/
def IsTls (w : World) (X : Nat) (pl : Value) (l : Lay) : Prop :=
  ∃ (rs : List (Nat × (List Int × List Int))) (v : Nat → Value), l = ⟨[], [], tAll rs, []⟩ ∧ pl = .slice none 0 0 ∧ w.cell? ⟨X, 1, none⟩ = some pl ∧ (∀ i, i < 4 → w.cell? ⟨X, 2 + i, none⟩ = some (v i)) ∧ (∀ i, i < 4 → Rows (eT i) w 0 (fun _ => True) (tT i) (v i) (tOf i rs)) ∧ rs.length ≤ 2000
theorem isTls_below {w w' : World} {X : Nat} {pl : Value} {l : Lay} (k : Below w.heap.size w w') (hI : IsTls w X pl l) : IsTls w' X pl l := by
  obtain ⟨rs, v, rfl, hp, c1, h4, hR, hl⟩ := hI
  have hc : ∀ j u, w.cell? ⟨X, j, none⟩ = some u → w'.cell? ⟨X, j, none⟩ = some u := fun j u hu => (k.cell (p := ⟨X, j, none⟩) (World.block_lt_of_cell? _ _ hu)).trans hu
  exact ⟨rs, v, rfl, hp, hc _ _ c1, fun i hi => hc _ _ (h4 i hi), fun i hi => (hR i hi).keeps (Keeps.of_below k), hl⟩
theorem isTls_pl {w : World} {X : Nat} {pl : Value} {l : Lay} (hI : IsTls w X pl l) : w.cell? ⟨X, 1, none⟩ = some pl := by
  obtain ⟨rs, v, rfl, hp, c1, _⟩ := hI
  exact c1

set_option maxRecDepth 100000 in
set_option maxHeartbeats 1000000 in
theorem dfb_tls {B X g o n c k : Nat} {bs : List Int} {w : World} (hn : n = bs.length) (h5 : 5 ≤ n) (hc : n ≤ c) (hm : c ≤ 9223372036854775807) (hLIM : n ≤ 2000) {r : Option (List (Nat × (List Int × List Int)))} (hres : dTls bs = some r)
    (hall : ∀ z ∈ bs, 0 ≤ z ∧ z ≤ 255) (hBX : B ≤ X) (hr : RowAt w (· < B) (some ⟨g, o, none⟩) (bs.map (.int .u8)))
    (hX : w.heap[X]? = some (.cells #[.slice none 0 0, .slice none 0 0, .slice none 0 0, .slice none 0 0, .slice none 0 0, .slice none 0 0] 157 (0, 0))) :
    Calls Try.prog 56 #[.pointer (some ⟨X, 0, none⟩), .slice (some ⟨g, o, none⟩) n c, .iface 173 (.pointer (some ⟨k, 0, none⟩))] w fun e w' =>
      Below X w w' ∧ TlsDec X w.heap.size B w' e r (fun _ => []) := by
  have HRES := Lib.hid hres
  have HBB := Lib.hid hall
  have HN := Lib.hid hn
  have HR := Lib.hid hr
  have d0 : w.cell? ⟨X, 0, none⟩ = some (.slice none 0 0) := by simp [World.cell?, hX]
  have d1 : w.cell? ⟨X, 1, none⟩ = some (.slice none 0 0) := by simp [World.cell?, hX]
  have d2 : w.cell? ⟨X, 2, none⟩ = some (.slice none 0 0) := by simp [World.cell?, hX]
  have d3 : w.cell? ⟨X, 3, none⟩ = some (.slice none 0 0) := by simp [World.cell?, hX]
  have d4 : w.cell? ⟨X, 4, none⟩ = some (.slice none 0 0) := by simp [World.cell?, hX]
  have d5 : w.cell? ⟨X, 5, none⟩ = some (.slice none 0 0) := by simp [World.cell?, hX]
  have hf : ∀ j, w.frozen? ⟨X, j, none⟩ = false := fun j => by simp [World.frozen?, hX]
  have f0 := hf 0
  have f1 := hf 1
  have f2 := hf 2
  have f3 := hf 3
  have f4 := hf 4
  have f5 := hf 5
  have HF := Lib.hid hf
  have lX : X < w.heap.size := (Array.getElem?_eq_some_iff.1 hX).1
  clear hres hall hn hr hX hf
  go_enter Try.func56, Try.ntmps56
  go_upto_region 7 with fail
  refine wp_gen (fun W => (∀ i, i < 4 → W.cell? ⟨X, 2 + i, none⟩ = some (.slice none 0 0)) ∧ (∀ j, W.frozen? ⟨X, j, none⟩ = false) ∧ W.cell? ⟨X, 0, none⟩ = some (.slice (some ⟨g, o, none⟩) n c) ∧ W.cell? ⟨X, 1, none⟩ = some (.slice none 0 0) ∧ W.heap.size = w.heap.size ∧ Keeps (· < B) w W ∧ Below X w W) ?F (fun W hW => ?_)
  case F =>
    refine ⟨fun i hi => ?_, fun j => ?_, by go_simp, by go_simp, by simp, (by repeat (first | with_reducible assumption | with_reducible exact Keeps.refl _ _ | with_reducible refine Keeps.drew ?_ | with_reducible refine Keeps.drewN ?_ _ | with_reducible refine Keeps.alloc ?_ _ | with_reducible refine Keeps.setCell ?_ ?_ _ | omega | focus (simp; done) | focus (simp; omega))), by have h0 := Below.refl X w; exact (by repeat (first | with_reducible assumption | with_reducible refine Below.drew ?_ | with_reducible refine below_drewN' ?_ _ | with_reducible refine Below.alloc ?_ ?_ _ | with_reducible refine Below.setCell ?_ ?_ _ | with_reducible exact Nat.le_refl _ | omega | focus (simp; done) | focus (simp; omega)))⟩
    · rcases i with _ | _ | _ | _ | i
      · simp only [Nat.add_zero]; go_simp
      · simp only [Nat.reduceAdd]; go_simp
      · simp only [Nat.reduceAdd]; go_simp
      · simp only [Nat.reduceAdd]; go_simp
      · omega
    · have := HF.out j
      go_simp
  obtain ⟨hc4, hff, x0, x1, hsz, hkW, hbW⟩ := hW
  have H4 := Lib.hid (show Four eT tT 2 W X w.heap.size (· < B) (fun _ => .slice none 0 0) (fun _ => []) from Four.start lX (by omega) hc4 hff)
  have HKW := Lib.hid hkW
  have HBW := Lib.hid hbW
  clear hc4 hff hkW hbW d0 d1 d2 d3 d4 d5 f0 f1 f2 f3 f4 f5
  go_wp2_with (go_at_call 58; refine (dec_tls n X w.heap.size B n c g o k bs W (fun _ => .slice none 0 0) (fun _ => []) r _ _ (Nat.le_refl _) HN.out (by omega) hc hm hLIM HBB.out (HR.out.keeps HKW.out) hBX H4.out x0 x1 (fun i => by simp; omega) HRES.out).mono ?_; rintro e w1 ⟨hb1, hd1⟩; obtain ⟨ev, rfl⟩ := hd1.ret)
  exact bodyPost_ret (v := ev) (by simp only [results, Try.results56]; go_simp) rfl ⟨HBW.out.trans hb1, hd1⟩

set_option maxRecDepth 100000 in
set_option maxHeartbeats 1000000 in
theorem decode_tls {g o n c : Nat} {bs : List Int} {w : World} (hn : n = bs.length) (h5 : 5 ≤ n) (hc : n ≤ c) (hm : c ≤ 9223372036854775807) (hLIM : n ≤ 2000) {r : Option (List (Nat × (List Int × List Int)))} (hres : dTls bs = some r)
    (hall : ∀ z ∈ bs, 0 ≤ z ∧ z ≤ 255) (hr : RowAt w (fun _ => True) (some ⟨g, o, none⟩) (bs.map (.int .u8))) :
    Calls Try.prog 27 #[.string ⟨#[116, 108, 115]⟩, .slice (some ⟨g, o, none⟩) n c] w fun e w' => Below w.heap.size w w' ∧ ((r = none ∧ ∃ t u, e = .returned (.tuple #[.nilIface, .iface t u])) ∨
      ∃ rs X pl, r = some rs ∧ e = .returned (.tuple #[.iface 151 (.pointer (some ⟨X, 0, none⟩)), .nilIface]) ∧ IsTls w' X pl ⟨[], [], tAll rs, []⟩) := by
  have m2 := m_add
  have HR := Lib.hid hr
  have HB := Lib.hid hall
  have HN := Lib.hid hn
  have HRES := Lib.hid hres
  have hn1 : ¬ (4096 : Int) < (n : Int) := by omega
  clear hr hall hn hres
  go_enter Try.func27, Try.ntmps27
  have HR1 := Lib.hid (HR.out.imp (fun b hb _ => hb))
  go_wp2_with (first | (go_at_call 31; refine new_c.mono ?_; rintro e w' ⟨rfl, rfl⟩) | (go_at_call 47; go_in))
  refine (dfb_tls HN.out h5 hc hm hLIM HRES.out HB.out (by omega) (HR1.out.keeps (by repeat (first | with_reducible assumption | with_reducible exact Keeps.refl _ _ | with_reducible refine Keeps.drew ?_ | with_reducible refine Keeps.drewN ?_ _ | with_reducible refine Keeps.alloc ?_ _ | with_reducible refine Keeps.setCell ?_ ?_ _ | omega | focus (simp; done) | focus (simp; omega)))) (by (try simp only [heap_drew]); repeat (first | (with_reducible refine heap_last ?_; focus (simp; done)) | with_reducible refine heap_past ?_))).mono ?_
  rintro e w1 ⟨hb1, ⟨hr0, b, rfl⟩ | ⟨rs, hr1, rfl, c1, v, hF⟩⟩
  · have HB1 := Lib.hid hb1
    have HR0 := Lib.hid hr0
    clear hb1 hr0
    go_wp2_with fail
    refine bodyPost_ret (v := .tuple #[.nilIface, .iface 178 (.pointer (some ⟨b, 0, none⟩))]) (by simp only [results, Try.results27]; go_simp) rfl ?_
    have hw : Below w.heap.size w w1 := by
      have h0 := Below.refl w.heap.size w
      refine Below.trans (b := _) ?_ (HB1.out.mono (by omega))
      exact (by repeat (first | with_reducible assumption | with_reducible refine Below.drew ?_ | with_reducible refine below_drewN' ?_ _ | with_reducible refine Below.alloc ?_ ?_ _ | with_reducible refine Below.setCell ?_ ?_ _ | with_reducible exact Nat.le_refl _ | omega | focus (simp; done) | focus (simp; omega)))
    exact ⟨(by repeat (first | with_reducible assumption | with_reducible refine Below.drew ?_ | with_reducible refine below_drewN' ?_ _ | with_reducible refine Below.alloc ?_ ?_ _ | with_reducible refine Below.setCell ?_ ?_ _ | with_reducible exact Nat.le_refl _ | omega | focus (simp; done) | focus (simp; omega))), .inl ⟨HR0.out, _, _, rfl⟩⟩
  · have k0 : w1.cell? ⟨w.heap.size, 0, none⟩ = some .nilIface := (hb1.cell (p := ⟨w.heap.size, 0, none⟩) (by simp; omega)).trans (by go_simp)
    have k1 : w1.frozen? ⟨w.heap.size, 0, none⟩ = false := (hb1.frozen (p := ⟨w.heap.size, 0, none⟩) (by simp; omega)).trans (by go_simp)
    have HB1 := Lib.hid hb1
    have HR0 := Lib.hid hr1
    have H4 := Lib.hid hF
    have HC1 := Lib.hid c1
    clear hb1 hr1 hF c1
    go_wp2_with (go_at_call 110; refine (add_c k0 k1).mono ?_; rintro e w' ⟨rfl, rfl⟩)
    refine bodyPost_ret (v := .tuple #[.iface 151 (.pointer (some ⟨w.heap.size + 1 + 1, 0, none⟩)), .nilIface]) (by simp only [results, Try.results27]; go_simp) rfl ?_
    have hw : Below w.heap.size w w1 := by
      have h0 := Below.refl w.heap.size w
      refine Below.trans (b := _) ?_ (HB1.out.mono (by omega))
      exact (by repeat (first | with_reducible assumption | with_reducible refine Below.drew ?_ | with_reducible refine below_drewN' ?_ _ | with_reducible refine Below.alloc ?_ ?_ _ | with_reducible refine Below.setCell ?_ ?_ _ | with_reducible exact Nat.le_refl _ | omega | focus (simp; done) | focus (simp; omega)))
    have hk6 : Keeps (fun b => b ≠ w.heap.size) w1 (w1.setCell ⟨w.heap.size, 0, none⟩ (.iface 151 (.pointer (some ⟨w.heap.size + 1 + 1, 0, none⟩)))) := (Keeps.refl _ _).setCell (fun h => h rfl) _
    have hc6 : ∀ j u, w1.cell? ⟨w.heap.size + 1 + 1, j, none⟩ = some u → (w1.setCell ⟨w.heap.size, 0, none⟩ (.iface 151 (.pointer (some ⟨w.heap.size + 1 + 1, 0, none⟩)))).cell? ⟨w.heap.size + 1 + 1, j, none⟩ = some u := fun j u hu => hk6.cell (b := w.heap.size + 1 + 1) (by omega) hu
    have hlen := dTls_length bs.length bs rs (Nat.le_refl _) (HRES.out.trans (by rw [HR0.out]))
    have hF := H4.out
    refine ⟨(by repeat (first | with_reducible assumption | with_reducible refine Below.drew ?_ | with_reducible refine below_drewN' ?_ _ | with_reducible refine Below.alloc ?_ ?_ _ | with_reducible refine Below.setCell ?_ ?_ _ | with_reducible exact Nat.le_refl _ | omega | focus (simp; done) | focus (simp; omega))),   .inr ⟨rs, _, .slice none 0 0, HR0.out, rfl, rs, v, rfl, rfl, hc6 1 _ HC1.out, fun i hi => hc6 _ _ (hF.cells i hi), fun i hi => ?_, by have := HN.out; omega⟩⟩
    refine ((hF.rows i hi).keeps2 (hk6.imp (fun b hb => ?_))).imp (Nat.zero_le _) (fun _ _ _ => trivial)
    rcases hb with hb | hb
    · have : b < w.heap.size := hb.1
      omega
    · have := (hF.own hi hb).1
      simp at this
      omega

set_option maxRecDepth 100000 in
set_option maxHeartbeats 1000000 in
theorem decode_tls_short {p : Option Addr} {n c : Nat} {w : World} (hn : n < 5) :
    Calls Try.prog 27 #[.string ⟨#[116, 108, 115]⟩, .slice p n c] w fun e w' =>
      (∃ t v, e = .returned (.tuple #[.nilIface, .iface t v])) ∧ Below w.heap.size w w' := by
  have m2 := m_trunc
  have hn1 : ¬ (4096 : Int) < (n : Int) := by omega
  have hn2 : (n : Int) < 5 := by omega
  go_enter Try.func27, Try.ntmps27
  go_wp2_with (first | (go_at_call 31; refine new_c.mono ?_; rintro e w' ⟨rfl, rfl⟩) | (go_at_call 111; refine trunc_c.mono ?_; rintro e w' ⟨rfl, rfl⟩) | (go_at_call 47; go_in) | (go_at_call 56; go_in) | (go_at_call 58; go_in))
  refine bodyPost_ret (v := .tuple #[.nilIface, .iface 178 (.pointer (some ⟨w.heap.size + 1 + 1 + 1, 0, none⟩))]) (by simp only [results, Try.results27]; go_simp) rfl ?_
  have h0 := Below.refl w.heap.size w
  exact ⟨⟨_, _, rfl⟩, (by repeat (first | with_reducible assumption | with_reducible refine Below.drew ?_ | with_reducible refine below_drewN' ?_ _ | with_reducible refine Below.alloc ?_ ?_ _ | with_reducible refine Below.setCell ?_ ?_ _ | with_reducible exact Nat.le_refl _ | omega | focus (simp; done) | focus (simp; omega)))⟩

theorem decOf_tls {bs : List Int} {r : Option Lay} (hb : ∀ z ∈ bs, 0 ≤ z ∧ z ≤ 255) (hlim : bs.length ≤ 2000) (hs : sTls bs = some r) : DecOf (.string ⟨#[116, 108, 115]⟩) bs r 151 IsTls := by
  intro v w h
  obtain ⟨p, c, rfl, hnc, hc, hp, hr⟩ := h
  by_cases h5 : bs.length < 5
  · rw [sTls_short h5] at hs
    cases hs
    exact (decode_tls_short h5).mono fun e w' h => ⟨h.2, .inl ⟨rfl, h.1⟩⟩
  · rw [sTls_long (by omega)] at hs
    cases hd : dTls bs with
    | none => rw [hd] at hs; cases hs
    | some q =>
      rw [hd] at hs
      simp at hs
      rcases hr with h | ⟨b, o, rfl, g1, g2, g3⟩
      · have := congrArg List.length h
        rw [List.length_map, List.length_nil] at this
        omega
      · have hr' : RowAt w (fun _ => True) (some ⟨b, o, none⟩) (bs.map (.int .u8)) := .inr ⟨b, o, rfl, g1, g2, g3⟩
        refine (decode_tls rfl (by omega) hnc hc hlim hd hb hr').mono ?_
        rintro e w' ⟨hbel, ⟨rfl, h2⟩ | ⟨rs, X, pl, rfl, h3, h4⟩⟩
        · exact ⟨hbel, .inl ⟨by simpa using hs.symm, h2⟩⟩
        · exact ⟨hbel, .inr ⟨_, X, pl, by simpa using hs.symm, h3, h4⟩⟩
end Go.Proofs.Ytehdhnjimmplhaa
