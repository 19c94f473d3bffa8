/-
  laws.same tells that two layers of the same data are the same.
-/
import Derived.Test.YtehdhnjimmplhaaVoc
import Derived.Laws.BytesArg
import Derived.Deep.QuietTactic
import Derived.BigQuiet
namespace Go.Proofs.Ytehdhnjimmplhaa
open Go Go.RowKit

theorem SB.convert {w : World} {ok : Nat → Prop} {v : Value} {bs : List Int} (h : SB w ok v bs) :
    (convert 22 9 v).run Try.prog w = .ok (.string (strOfNums bs)) w := by
  obtain ⟨p, c, rfl, hnc, hc, hp, hr⟩ := h
  rcases hr with h0 | ⟨b, o, rfl, _, _, hcell⟩
  · have hb : bs = [] := by simpa using h0
    subst hb
    cases p with
    | none => exact run_convert_bytes_nil w _ _ Try.underlying22 Try.underlying5 _ _ _ Try.underlying9
    | some a =>
      rw [run_convert_bytes_string w _ _ _ _ _ _ Try.underlying22 Try.underlying5 Try.underlying9, run_bytesToString w a _ c [] (by rfl)]
      rfl
  · refine run_convert_bytes_arg w _ _ Try.underlying22 Try.underlying5 b o _ c bs rfl (fun i hi => ?_) _ Try.underlying9
    exact hcell i _ (by simp [hi])

theorem bytesEqual_c {w : World} {ok ok' : Nat → Prop} {v u : Value} {bs : List Int} (h : SB w ok v bs) (h' : SB w ok' u bs) :
    Calls Try.prog 24 #[v, u] w fun e w' => e = .returned (.bool true) ∧ w = w' := by
  have e1 := h.convert
  have e2 := h'.convert
  clear h h'
  generalize strOfNums bs = s at *
  go_enter Try.func24, Try.ntmps24
  go_wp2
  go_ret
  exact ⟨by simp, rfl⟩

set_option maxHeartbeats 400000 in
theorem numsEqual_c {w : World} {ok ok' : Nat → Prop} {v u : Value} {ns : List Int} (h : SN w ok v ns) (h' : SN w ok' u ns) :
    Calls Try.prog 23 #[v, u] w fun e w' => e = .returned (.bool true) ∧ Below w.heap.size w w' := by
  obtain ⟨p, c, rfl, hnc, hc, hp, hr⟩ := h
  obtain ⟨q, d, rfl, hnd, hd, hq, hs⟩ := h'
  have hcell : ∀ k, k < ns.length → ∃ b o, p = some ⟨b, o, none⟩ ∧ w.cell? ⟨b, o + k, none⟩ = some (.int .u64 (ns.getD k 0)) := by
    intro k hk
    rcases hr with h0 | ⟨b, o, rfl, _, _, hcell⟩
    · have hn : ns = [] := by simpa using h0
      subst hn; simp at hk
    · exact ⟨b, o, rfl, hcell k _ (by simp [List.getD, hk])⟩
  have hcell' : ∀ k, k < ns.length → ∃ b o, q = some ⟨b, o, none⟩ ∧ w.cell? ⟨b, o + k, none⟩ = some (.int .u64 (ns.getD k 0)) := by
    intro k hk
    rcases hs with h0 | ⟨b, o, rfl, _, _, hcell⟩
    · have hn : ns = [] := by simpa using h0
      subst hn; simp at hk
    · exact ⟨b, o, rfl, hcell k _ (by simp [List.getD, hk])⟩
  clear hr hs hp hq
  have H1 := Lib.hid hcell
  have H2 := Lib.hid hcell'
  clear hcell hcell'
  generalize ns.length = n at *
  go_enter Try.func23, Try.ntmps23
  go_wp2
  go_loopw [5, 13] (fun _ i wr => ∃ k q : Nat, k ≤ n ∧ i = .int .i64 k ∧ wr = w.drewN q) (fun _ i _ => n - (intOf i).toNat)
  case atStart => exact ⟨0, 0, Nat.zero_le _, rfl, rfl⟩
  case round =>
    obtain ⟨k, nd, hk, rfl, rfl⟩ := hrel
    by_cases hlt : k < n
    · obtain ⟨b, o, rfl, hc1⟩ := H1.out k hlt
      obtain ⟨b', o', rfl, hc2⟩ := H2.out k hlt
      generalize ns.getD k 0 = z at *
      go_wp2
      go_quiet (fail)
      go_wp2
      go_roundw
      case rel => exact ⟨k + 1, _, by omega, by go_num, rfl⟩
      case measure => simp [intOf]; omega
    · have hkn : k = n := by omega
      subst hkn
      go_wp2
      go_ret
      exact ⟨rfl, below_drewN' (Below.refl _ _) _⟩

/-- Cell number j of a slice's cells. -/
theorem IsSl.cell {w : World} {ok : Nat → Prop} {p : Option Addr} {n c m : Nat} {xs : List Value} (h : IsSl w ok (.slice p n c) m xs) {k : Nat} {x : Value} (hx : xs[k]? = some x) :
    ∃ b o, p = some ⟨b, o, none⟩ ∧ b < w.heap.size ∧ ∀ j u, xs[j]? = some u → w.cell? ⟨b, o + j, none⟩ = some u := by
  obtain ⟨p', c', he, _, _, _, hr⟩ := h
  simp only [Value.slice.injEq] at he
  obtain ⟨rfl, _, _⟩ := he
  rcases hr with h0 | ⟨b, o, hp, _, hb, hc⟩
  · subst h0; simp at hx
  · exact ⟨b, o, hp, hb, hc⟩

set_option maxHeartbeats 400000 in
theorem dataEqual_c {w : World} {ok ok' : Nat → Prop} {v u : Value} {ds : List (List Int)} (h : SD w ok v ds) (h' : SD w ok' u ds) :
    Calls Try.prog 25 #[v, u, .func (.func 24) #[] #[]] w fun e w' => e = .returned (.bool true) ∧ Below w.heap.size w w' := by
  obtain ⟨vs, hl, hv, he⟩ := h
  obtain ⟨us, hl', hu, he'⟩ := h'
  have hv' := hv
  have hu' := hu
  obtain ⟨p, c, rfl, hnc, hc, -, -⟩ := hv
  obtain ⟨q, d, rfl, hnd, hd, -, -⟩ := hu
  have H1 : ∀ k, k < ds.length → ∃ b o x bs, p = some ⟨b, o, none⟩ ∧ b < w.heap.size ∧ w.cell? ⟨b, o + k, none⟩ = some x ∧ ds[k]? = some bs ∧ SB w ok x bs := by
    intro k hk
    obtain ⟨x, hx⟩ : ∃ x, vs[k]? = some x := ⟨vs[k], by simp [hl, hk]⟩
    obtain ⟨b, o, hp, hb, hcell⟩ := IsSl.cell hv' hx
    exact ⟨b, o, x, ds[k], hp, hb, hcell k x hx, by simp [hk], he k x _ hx (by simp [hk])⟩
  have H2 : ∀ k, k < ds.length → ∃ b o x bs, q = some ⟨b, o, none⟩ ∧ b < w.heap.size ∧ w.cell? ⟨b, o + k, none⟩ = some x ∧ ds[k]? = some bs ∧ SB w ok' x bs := by
    intro k hk
    obtain ⟨x, hx⟩ : ∃ x, us[k]? = some x := ⟨us[k], by simp [hl', hk]⟩
    obtain ⟨b, o, hp, hb, hcell⟩ := IsSl.cell hu' hx
    exact ⟨b, o, x, ds[k], hp, hb, hcell k x hx, by simp [hk], he' k x _ hx (by simp [hk])⟩
  clear he he' hv' hu' hl hl'
  have H1 := Lib.hid H1
  have H2 := Lib.hid H2
  generalize hn : ds.length = n at *
  clear hn
  go_enter Try.func25, Try.ntmps25
  go_wp2
  go_loopw [7, 8, 9, 17] (fun _ _ _ i wr => ∃ k : Nat, k ≤ n ∧ i = .int .i64 k ∧ Below w.heap.size w wr) (fun _ _ _ i _ => n - (intOf i).toNat)
  case atStart => exact ⟨0, Nat.zero_le _, rfl, Below.refl _ _⟩
  case round =>
    obtain ⟨k, hk, rfl, hb⟩ := hrel
    by_cases hlt : k < n
    · obtain ⟨b, o, x, bs, rfl, hbl, hcx, hds, hx⟩ := H1.out k hlt
      obtain ⟨b', o', y, bs', rfl, hbl', hcy, hds', hy⟩ := H2.out k hlt
      obtain rfl : bs = bs' := Option.some.inj (hds.symm.trans hds')
      have kx := (hb.cell (p := ⟨b, o + k, none⟩) hbl).trans hcx
      have ky := (hb.cell (p := ⟨b', o' + k, none⟩) hbl').trans hcy
      have HX := Lib.hid (hx.keeps (Keeps.of_below hb))
      have HY := Lib.hid (hy.keeps (Keeps.of_below hb))
      obtain ⟨px, cx, rfl, -⟩ := hx
      obtain ⟨py, cy, rfl, -⟩ := hy
      have HB := Lib.hid hb
      clear hcx hcy hds hds' hb
      go_wp2_with (go_at_call 24; refine (bytesEqual_c HX.out HY.out).mono ?_; rintro e w' ⟨rfl, rfl⟩)
      go_roundw
      case rel => exact ⟨k + 1, by omega, by go_num, HB.out⟩
      case measure => simp [intOf]; omega
    · have hkn : k = n := by omega
      subst hkn
      go_wp2
      go_ret
      exact ⟨rfl, hb⟩

set_option maxHeartbeats 400000 in
theorem partEqual_c {w : World} {ok ok' : Nat → Prop} {v1 v2 u1 u2 : Value} {ns bs : List Int} (h1 : SN w ok v1 ns) (h2 : SB w ok v2 bs) (h3 : SN w ok' u1 ns) (h4 : SB w ok' u2 bs) :
    Calls Try.prog 22 #[.agg #[v1, v2], .agg #[u1, u2]] w fun e w' => e = .returned (.bool true) ∧ Below w.heap.size w w' := by
  have K1 := Lib.hid h1
  have K2 := Lib.hid h2
  have K3 := Lib.hid h3
  have K4 := Lib.hid h4
  obtain ⟨_, _, rfl, -⟩ := h1
  obtain ⟨_, _, rfl, -⟩ := h2
  obtain ⟨_, _, rfl, -⟩ := h3
  obtain ⟨_, _, rfl, -⟩ := h4
  have hk : ∀ (ok : Nat → Prop) o1 o2, Keeps ok w ((w.alloc o1).alloc o2) := fun ok o1 o2 => ((Keeps.refl ok w).alloc o1).alloc o2
  have HK := Lib.hid hk
  clear hk
  go_enter Try.func22, Try.ntmps22
  go_wp2_with (go_at_call 23; refine (numsEqual_c (K1.out.keeps (HK.out _ _ _)) (K3.out.keeps (HK.out _ _ _))).mono ?_; rintro e w1 ⟨rfl, hb⟩; have hb1 := bcell hb; have HB := Lib.hid hb; clear hb)
  refine (bytesEqual_c (K2.out.keeps ((HK.out _ _ _).trans (Keeps.of_below HB.out))) (K4.out.keeps ((HK.out _ _ _).trans (Keeps.of_below HB.out)))).mono ?_
  rintro e w' ⟨rfl, rfl⟩
  clear hb1
  go_wp2
  go_ret
  exact ⟨rfl, (((Below.refl _ w).alloc (Nat.le_refl _) _).alloc (by simp) _).trans (HB.out.mono (by simp; omega))⟩

set_option maxHeartbeats 800000 in
theorem partsEqual_c {w : World} {ok ok' : Nat → Prop} {v u : Value} {ps : List (List Int × List Int)} (h : SP w ok v ps) (h' : SP w ok' u ps) :
    Calls Try.prog 26 #[v, u, .func (.func 22) #[] #[]] w fun e w' => e = .returned (.bool true) ∧ Below w.heap.size w w' := by
  obtain ⟨vs, hl, hv, he⟩ := h
  obtain ⟨us, hl', hu, he'⟩ := h'
  have hv' := hv
  have hu' := hu
  obtain ⟨p, c, rfl, hnc, hc, -, -⟩ := hv
  obtain ⟨q, d, rfl, hnd, hd, -, -⟩ := hu
  have cells2 : ∀ (vs : List (Value × Value)) k x, vs[k]? = some x → (pcells vs)[k * 2]? = some x.1 ∧ (pcells vs)[k * 2 + 1]? = some x.2 := by
    intro vs
    induction vs with
    | nil => intro k x h; simp at h
    | cons y vs ih =>
      intro k x h
      cases k with
      | zero => simp at h; subst h; simp [pcells]
      | succ k =>
        have := ih k x (by simpa using h)
        rw [show (k + 1) * 2 = k * 2 + 2 by omega, show k * 2 + 2 + 1 = k * 2 + 1 + 2 by omega]
        simpa [pcells] using this
  have H1 : ∀ k, k < ps.length → ∃ b o x y bs, p = some ⟨b, o, none⟩ ∧ b < w.heap.size ∧ w.cell? ⟨b, o + k * 2, none⟩ = some x ∧ w.cell? ⟨b, o + k * 2 + 1, none⟩ = some y ∧ ps[k]? = some bs ∧ SN w ok x bs.1 ∧ SB w ok y bs.2 := by
    intro k hk
    obtain ⟨x, hx⟩ : ∃ x, vs[k]? = some x := ⟨vs[k], by simp [hl, hk]⟩
    obtain ⟨c1, c2⟩ := cells2 vs k x hx
    obtain ⟨b, o, hp, hb, hcell⟩ := IsSl.cell hv' c1
    have := he k x _ hx (by simp [hk] : ps[k]? = some ps[k])
    exact ⟨b, o, x.1, x.2, ps[k], hp, hb, hcell _ _ c1, hcell _ _ c2, by simp [hk], this.1, this.2⟩
  have H2 : ∀ k, k < ps.length → ∃ b o x y bs, q = some ⟨b, o, none⟩ ∧ b < w.heap.size ∧ w.cell? ⟨b, o + k * 2, none⟩ = some x ∧ w.cell? ⟨b, o + k * 2 + 1, none⟩ = some y ∧ ps[k]? = some bs ∧ SN w ok' x bs.1 ∧ SB w ok' y bs.2 := by
    intro k hk
    obtain ⟨x, hx⟩ : ∃ x, us[k]? = some x := ⟨us[k], by simp [hl', hk]⟩
    obtain ⟨c1, c2⟩ := cells2 us k x hx
    obtain ⟨b, o, hp, hb, hcell⟩ := IsSl.cell hu' c1
    have := he' k x _ hx (by simp [hk] : ps[k]? = some ps[k])
    exact ⟨b, o, x.1, x.2, ps[k], hp, hb, hcell _ _ c1, hcell _ _ c2, by simp [hk], this.1, this.2⟩
  clear he he' hv' hu' hl hl' cells2
  have H1 := Lib.hid H1
  have H2 := Lib.hid H2
  generalize hn : ps.length = n at *
  clear hn
  go_enter Try.func26, Try.ntmps26
  go_wp2
  go_loopw [7, 8, 9, 17] (fun _ _ _ i wr => ∃ k : Nat, k ≤ n ∧ i = .int .i64 k ∧ Below w.heap.size w wr) (fun _ _ _ i _ => n - (intOf i).toNat)
  case atStart => exact ⟨0, Nat.zero_le _, rfl, Below.refl _ _⟩
  case round =>
    obtain ⟨k, hk, rfl, hb⟩ := hrel
    by_cases hlt : k < n
    · obtain ⟨b, o, x, x2, bs, rfl, hbl, hcx, hcx2, hds, hx, hx2⟩ := H1.out k hlt
      obtain ⟨b', o', y, y2, bs', rfl, hbl', hcy, hcy2, hds', hy, hy2⟩ := H2.out k hlt
      obtain rfl : bs = bs' := Option.some.inj (hds.symm.trans hds')
      have kx := (hb.cell (p := ⟨b, o + k * 2, none⟩) hbl).trans hcx
      have kx2 := (hb.cell (p := ⟨b, o + k * 2 + 1, none⟩) hbl).trans hcx2
      have ky := (hb.cell (p := ⟨b', o' + k * 2, none⟩) hbl').trans hcy
      have ky2 := (hb.cell (p := ⟨b', o' + k * 2 + 1, none⟩) hbl').trans hcy2
      have K1 := Lib.hid (hx.keeps (Keeps.of_below hb))
      have K2 := Lib.hid (hx2.keeps (Keeps.of_below hb))
      have K3 := Lib.hid (hy.keeps (Keeps.of_below hb))
      have K4 := Lib.hid (hy2.keeps (Keeps.of_below hb))
      obtain ⟨_, _, rfl, -⟩ := hx
      obtain ⟨_, _, rfl, -⟩ := hx2
      obtain ⟨_, _, rfl, -⟩ := hy
      obtain ⟨_, _, rfl, -⟩ := hy2
      have hsz := hb.size
      have lb : b < wr.heap.size := by omega
      have lb' : b' < wr.heap.size := by omega
      have lb1 : b < wr.heap.size + 1 := by omega
      have lb1' : b' < wr.heap.size + 1 := by omega
      have HK := Lib.hid (fun (ok : Nat → Prop) o1 o2 => ((Keeps.refl ok wr).alloc o1).alloc o2)
      have HB := Lib.hid hb
      clear hcx hcx2 hcy hcy2 hds hds' hb
      go_wp2_with (go_at_call 22; refine (partEqual_c (K1.out.keeps (HK.out _ _ _)) (K2.out.keeps (HK.out _ _ _)) (K3.out.keeps (HK.out _ _ _)) (K4.out.keeps (HK.out _ _ _))).mono ?_; rintro e w2 ⟨rfl, hb2⟩; have HB2 := Lib.hid hb2; clear hb2)
      go_roundw
      case rel => exact ⟨k + 1, by omega, by go_num, ((HB.out.alloc hsz _).alloc (by simp; omega) _).trans (HB2.out.mono (by simp; omega))⟩
      case measure => simp [intOf]; omega
    · have hkn : k = n := by omega
      subst hkn
      go_wp2
      go_ret
      exact ⟨rfl, hb⟩

set_option maxHeartbeats 800000 in
theorem same_c {w : World} {v u : Value} {l : Lay} (h : LayIs w v l) (h' : LayIs w u l) :
    Calls Try.prog 7 #[v, u] w fun e w' => e = .returned (.bool true) ∧ Below w.heap.size w w' := by
  obtain ⟨a1, a2, a3, a4, rfl, h1, h2, h3, h4⟩ := h
  obtain ⟨b1, b2, b3, b4, rfl, g1, g2, g3, g4⟩ := h'
  have H1 := Lib.hid h1
  have H2 := Lib.hid h2
  have H3 := Lib.hid h3
  have H4 := Lib.hid h4
  have G1 := Lib.hid g1
  have G2 := Lib.hid g2
  have G3 := Lib.hid g3
  have G4 := Lib.hid g4
  obtain ⟨_, _, rfl, -⟩ := h1
  obtain ⟨_, -, ⟨_, _, rfl, -⟩, -⟩ := h2
  obtain ⟨_, -, ⟨_, _, rfl, -⟩, -⟩ := h3
  obtain ⟨_, _, rfl, -⟩ := h4
  obtain ⟨_, _, rfl, -⟩ := g1
  obtain ⟨_, -, ⟨_, _, rfl, -⟩, -⟩ := g2
  obtain ⟨_, -, ⟨_, _, rfl, -⟩, -⟩ := g3
  obtain ⟨_, _, rfl, -⟩ := g4
  have HK := Lib.hid (fun (ok : Nat → Prop) o1 o2 => ((Keeps.refl ok w).alloc o1).alloc o2)
  go_enter Try.func7, Try.ntmps7
  go_wp2_with fail
  refine (numsEqual_c (H1.out.keeps (HK.out _ _ _)) (G1.out.keeps (HK.out _ _ _))).mono ?_
  rintro e w1 ⟨rfl, hb⟩
  have hb1 := bcell hb
  have B1 := Lib.hid hb
  clear hb
  go_wp2_with fail
  refine (dataEqual_c (H2.out.keeps ((HK.out _ _ _).trans (Keeps.of_below B1.out))) (G2.out.keeps ((HK.out _ _ _).trans (Keeps.of_below B1.out)))).mono ?_
  rintro e w2 ⟨rfl, hb⟩
  have hb2 := bcell hb
  have l2 := hb.size
  have l1 := B1.out.size
  have B2 := Lib.hid hb
  have q0 : w.heap.size < w1.heap.size := by simp at l1; omega
  have q1 : w.heap.size + 1 < w1.heap.size := by simp at l1; omega
  clear hb l1
  go_wp2_with fail
  refine (partsEqual_c (H3.out.keeps (((HK.out _ _ _).trans (Keeps.of_below B1.out)).trans (Keeps.of_below B2.out))) (G3.out.keeps (((HK.out _ _ _).trans (Keeps.of_below B1.out)).trans (Keeps.of_below B2.out)))).mono ?_
  rintro e w3 ⟨rfl, hb⟩
  have hb3 := bcell hb
  have B3 := Lib.hid hb
  have q2 : w.heap.size < w2.heap.size := by omega
  have q3 : w.heap.size + 1 < w2.heap.size := by omega
  clear hb
  go_wp2_with fail
  refine (bytesEqual_c (H4.out.keeps ((((HK.out _ _ _).trans (Keeps.of_below B1.out)).trans (Keeps.of_below B2.out)).trans (Keeps.of_below B3.out))) (G4.out.keeps ((((HK.out _ _ _).trans (Keeps.of_below B1.out)).trans (Keeps.of_below B2.out)).trans (Keeps.of_below B3.out)))).mono ?_
  rintro e w4 ⟨rfl, rfl⟩
  clear hb1 hb2 hb3
  go_wp2_with fail
  go_ret
  have b1 := ((Below.refl _ w).alloc (Nat.le_refl _) (.cells #[_, _, _, _] 29)).alloc (by simp) (.cells #[_, _, _, _] 29) |>.trans (B1.out.mono (by simp; omega))
  exact ⟨rfl, (b1.trans (B2.out.mono (by omega))).trans (B3.out.mono (by omega))⟩
end Go.Proofs.Ytehdhnjimmplhaa
