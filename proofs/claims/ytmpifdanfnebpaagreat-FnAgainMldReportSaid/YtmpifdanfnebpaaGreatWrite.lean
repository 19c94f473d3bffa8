/-
  impl.Write of any kind whose layer can be made and written.
-/
import Derived.Test.YtmpifdanfnebpaaGreatBuf
import Derived.Test.YtmpifdanfnebpaaGreatTake
import Derived.Test.YtmpifdanfnebpaaGreatRead
import Derived.Test.YtmpifdanfnebpaaGreatKind
import Derived.Test.YtmpifdanfnebpaaGreatParts
namespace Go.Proofs.YtmpifdanfnebpaaGreat
open Go Go.RowKit

/-- What impl.made makes of a layer: something at X. -/
def MadeOf (K : Value) (l : Lay) (T : TypeId) (Is : World → Nat → Prop) : Prop :=
  ∀ (v : Value) (w : World), LayIs w v l → Calls Tryz.prog 23 #[K, v] w fun e w' =>
    Below w.heap.size w w' ∧ ∃ X, e = .returned (.iface T (.pointer (some ⟨X, 0, none⟩))) ∧ Is w' X

/-- What is written ahead of the bytes pay. -/
def SerOf (f : Nat) (pay bs : List Int) (Is : World → Nat → Prop) : Prop :=
  ∀ (w0 w : World) (X B : Nat), Is w0 X → Below w0.heap.size w0 w → w0.heap.size ≤ B → Buf w B pay → Calls Tryz.prog f #[.pointer (some ⟨X, 0, none⟩), .iface 166 (.pointer (some ⟨B, 0, none⟩)), .agg #[.bool false, .bool false]] w fun e w' =>
    e = .returned .nilIface ∧ Below B w w' ∧ ∃ D s, Holds w' B D s bs

theorem m_append (k : Nat) (a : Addr) (w : World) : (method (k + 1) 166 (.pointer (some a)) "AppendBytes").run Tryz.prog w = .ok (139, .pointer (some a)) w := by kernel_rfl
theorem m_prepend (k : Nat) (a : Addr) (w : World) : (method (k + 1) 166 (.pointer (some a)) "PrependBytes").run Tryz.prog w = .ok (143, .pointer (some a)) w := by kernel_rfl
theorem m_bytes (k : Nat) (a : Addr) (w : World) : (method (k + 1) 166 (.pointer (some a)) "Bytes").run Tryz.prog w = .ok (140, .pointer (some a)) w := by kernel_rfl

theorem IsSl.cellW {w : World} {ok : Nat → Prop} {p : Option Addr} {n c m : Nat} {xs : List Value} (h : IsSl w ok (.slice p n c) m xs) {k : Nat} {x : Value} (hx : xs[k]? = some x) :
    ∃ b o, p = some ⟨b, o, none⟩ ∧ b < w.heap.size ∧ ∀ j u, xs[j]? = some u → w.cell? ⟨b, o + j, none⟩ = some u := by
  obtain ⟨p', c', he, _, _, _, hr⟩ := h
  simp only [Value.slice.injEq] at he
  obtain ⟨rfl, _, _⟩ := he
  rcases hr with h0 | ⟨b, o, rfl, _, hb, hc⟩
  · rw [h0] at hx; cases hx
  · exact ⟨b, o, rfl, hb, hc⟩
theorem pcells_at : ∀ (vs : List (Value × Value)) (k : Nat) (x : Value × Value), vs[k]? = some x → (pcells vs)[k * 2]? = some x.1 ∧ (pcells vs)[k * 2 + 1]? = some x.2
  | [], k, x, h => by simp at h
  | y :: vs, 0, x, h => by simp at h; subst h; simp [pcells]
  | y :: vs, k + 1, x, h => by
    have := pcells_at vs k x (by simpa using h)
    rw [show (k + 1) * 2 = k * 2 + 2 by omega, show k * 2 + 2 + 1 = k * 2 + 1 + 2 by omega]
    simpa [pcells] using this

theorem SD.at' {w : World} {ok : Nat → Prop} {v : Value} {ds : List (List Int)} (h : SD w ok v ds) (hl : ∀ d ∈ ds, d.length ≤ 2000) :
    ∀ p n c, v = .slice p n c → ∀ k, k < ds.length → ∃ b o q m cq, p = some ⟨b, o, none⟩ ∧ b < w.heap.size ∧ w.cell? ⟨b, o + k, none⟩ = some (.slice q m cq) ∧ m ≤ 2000 := by
  rintro p n c rfl k hk
  obtain ⟨vs, hv, hs, he⟩ := h
  obtain ⟨x, hx⟩ : ∃ x, vs[k]? = some x := ⟨vs[k], by simp [hv, hk]⟩
  obtain ⟨b, o, hp, hb, hc⟩ := hs.cellW hx
  obtain ⟨q, cq, rfl, -⟩ := he k x ds[k] hx (by simp)
  exact ⟨b, o, q, _, cq, hp, hb, hc k _ hx, hl _ (by simp)⟩
theorem SP.at' {w : World} {ok : Nat → Prop} {v : Value} {ps : List (List Int × List Int)} (h : SP w ok v ps) (hl : ∀ d ∈ ps, d.2.length ≤ 2000) :
    ∀ p n c, v = .slice p n c → ∀ k, k < ps.length → ∃ b o q m cq q2 m2 cq2, p = some ⟨b, o, none⟩ ∧ b < w.heap.size ∧ w.cell? ⟨b, o + k * 2, none⟩ = some (.slice q m cq) ∧ w.cell? ⟨b, o + k * 2 + 1, none⟩ = some (.slice q2 m2 cq2) ∧ m2 ≤ 2000 := by
  rintro p n c rfl k hk
  obtain ⟨vs, hv, hs, he⟩ := h
  obtain ⟨x, hx⟩ : ∃ x, vs[k]? = some x := ⟨vs[k], by simp [hv, hk]⟩
  obtain ⟨c1, c2⟩ := pcells_at vs k x hx
  obtain ⟨b, o, hp, hb, hc⟩ := hs.cellW c1
  obtain ⟨⟨q, cq, h1, -⟩, ⟨q2, cq2, h2, -⟩⟩ := he k x ps[k] hx (by simp)
  have e1 := hc _ _ c1
  have e2 := hc _ _ c2
  rw [h1] at e1
  rw [h2] at e2
  exact ⟨b, o, q, _, cq, q2, _, cq2, hp, hb, e1, e2, hl _ (by simp)⟩

theorem Holds.fill {w : World} {B D : Nat} {zs ds : List Int} (h : Holds w B D 0 zs) (hl : ds.length = zs.length) : Holds (w.setCells D 0 (ds.map (.int .u8))) B D 0 ds := by
  obtain ⟨h1, h2, h3, h4, h5, ⟨pp, h6, h7⟩, h8, h9, h10, h11⟩ := h
  have hne : ¬ B = D := by omega
  refine ⟨h1, by rw [size_setCells]; exact h2, by omega, by rw [cell_setCells hne, hl]; exact h4, by rw [cell_setCells hne]; exact h5, ⟨pp, by rw [cell_setCells hne]; exact h6, by rw [hl]; exact h7⟩, fun j => by rw [World.frozen?_setCells]; exact h8 j, fun j => by rw [World.frozen?_setCells]; exact h9 j, fun j x hx => ?_, fun j hj => by omega⟩
  have hj := (List.getElem?_eq_some_iff.1 hx).1
  rw [World.cell?_setCells_in D _ 0 w (fun i hi => ?_) j (by simpa using hj)]
  · rw [List.getElem_map, (List.getElem?_eq_some_iff.1 hx).2]
  · rw [List.length_map] at hi
    rw [h10 i _ (List.getElem?_eq_getElem (by omega))]
    rfl
theorem Below.thenDrew {a w w' : World} {q B : Nat} (h : Below B a w) (k : Below (w.drewN q).heap.size (w.drewN q) w') (hB : B ≤ w.heap.size) : Below B a w' :=
  h.trans ((show Below B w (w.drewN q) from ⟨rfl, rfl, rfl, Nat.le_refl _, fun _ _ => rfl⟩).trans (k.mono hB))
theorem SB.copied {w : World} {ok : Nat → Prop} {p : Option Addr} {n c D : Nat} {ds : List Int} (h : SB w ok (.slice p n c) ds) (h0 : 0 < ds.length) {B : Nat} {zs : List Int} (hh : Holds w B D 0 zs) (hl : ds.length = zs.length) :
    (Builtin.copy_ #[22, 22] 3 #[.slice (some ⟨D, 0, none⟩) ds.length ds.length, .slice p n c]).run Tryz.prog w = .ok (goInt ds.length) (w.setCells D 0 (ds.map (.int .u8))) := by
  obtain ⟨p', c', he, -, -, -, hr⟩ := h
  simp only [Value.slice.injEq] at he
  obtain ⟨rfl, rfl, rfl⟩ := he
  rcases hr with hr | ⟨b, o, rfl, -, -, hc⟩
  · simp at hr
    subst hr
    exact absurd h0 (by simp)
  · have := run_copy_cells (P := Tryz.prog) w 22 22 3 5 D 0 ds.length ds.length ⟨b, o, none⟩ ds.length c (ds.map (.int .u8)) Tryz.underlying22 sz1B (by rw [List.length_map]; exact (Nat.min_self _).symm)
      (fun j u hu => by rw [addr_add]; exact hc j u hu) (fun j hj => by rw [List.length_map] at hj; rw [hh.row j _ (List.getElem?_eq_getElem (by omega))]; rfl) (fun j _ => hh.frD _) (ints_oneCell .u8 ds)
    rwa [List.length_map] at this
theorem bare_again {w : World} {B : Nat} (h : Bare w B) : Bare (w.setCell ⟨B, 0, none⟩ (.slice none 0 0)) B := by
  obtain ⟨h1, h2, h3, h4, h5, h6⟩ := h
  exact ⟨by simpa using h1, World.cell?_setCell_same _ _ _ h2, by rw [World.cell?_setCell_other _ _ _ _ (by simp)]; exact h3, by rw [World.cell?_setCell_other _ _ _ _ (by simp)]; exact h4, by rw [World.cell?_setCell_other _ _ _ _ (by simp)]; exact h5, fun j => by rw [World.frozen?_setCell]; exact h6 j⟩

set_option maxRecDepth 100000 in
set_option maxHeartbeats 8000000 in
theorem write_c {K : Value} {l : Lay} {bs : List Int} {T : TypeId} {f : Nat} {Is : World → Nat → Prop} (hm : MadeOf K l T Is) (hs : SerOf f l.payload bs Is)
    (hf : ∀ (k : Nat) (a : Addr) (w : World), (method (k + 1) T (.pointer (some a)) "SerializeTo").run Tryz.prog w = .ok (f, .pointer (some a)) w)
    (hcf : ∀ (args : Array Value) (W : World), (callFunc f args).run Tryz.prog W = .ok (.enter f args) W)
    (hp : l.payload.length ≤ 2000) (hd : ∀ d ∈ l.data, d.length ≤ 2000) (hq : ∀ p ∈ l.parts, p.2.length ≤ 2000) (hn : l.parts.length ≤ 50) (hb : bs.length ≤ 100000) : WriteOf K l bs := by
  intro v w h
  have HV := Lib.hid h
  have HM := Lib.hid hm
  have HS := Lib.hid hs
  have m1 := m_append
  have m2 := m_bytes
  obtain ⟨a, b, c, d, rfl, ⟨p1, c1, rfl, -⟩, h2, h3, h4⟩ := h
  have H4 := Lib.hid h4
  obtain ⟨p4, c4, rfl, hnc4, hc4, hp4, hr4⟩ := h4
  have hD := h2.at' hd
  have hU := h3.at' hq
  obtain ⟨vs, hvl, ⟨p2, c2, rfl, hn2, hm2, hsd⟩, hve⟩ := h2
  have nd : l.data.length ≤ 9223372036854775807 := by omega
  obtain ⟨us, hul, ⟨p3, c3, rfl, hsp⟩, hue⟩ := h3
  have HD := Lib.hid (hD _ _ _ rfl)
  have HU := Lib.hid (hU _ _ _ rfl)
  have n1 : ¬ ((2000 : Int) < (l.payload.length : Int)) := by omega
  have n2 : ¬ ((50 : Int) < (l.parts.length : Int)) := by omega
  clear hm hs hve hsd hue hsp hq hd hr4 hD hU hp4 hvl hul hn2 hm2
  go_enter Tryz.func8, Tryz.ntmps8
  go_wp2_with fail
  refine wp_gen (fun W => (W.cell? ⟨w.heap.size, 0, none⟩ = some (.slice p1 l.nums.length c1) ∧ W.cell? ⟨w.heap.size, 1, none⟩ = some (.slice p2 l.data.length c2) ∧ W.cell? ⟨w.heap.size, 2, none⟩ = some (.slice p3 l.parts.length c3) ∧ W.cell? ⟨w.heap.size, 3, none⟩ = some (.slice p4 l.payload.length c4)) ∧ w.heap.size < W.heap.size ∧ Below w.heap.size w W) ?F (fun W hW => ?_)
  case F => exact ⟨⟨by go_simp, by go_simp, by go_simp, by go_simp⟩, by simp, by have h0 := Below.refl w.heap.size w; exact (by repeat (first | with_reducible assumption | with_reducible refine Below.drew ?_ | with_reducible refine below_drewN' ?_ _ | with_reducible refine Below.alloc ?_ ?_ _ | with_reducible refine Below.setCell ?_ ?_ _ | with_reducible exact Nat.le_refl _ | omega | focus (simp; done) | focus (simp; omega)))⟩
  obtain ⟨⟨e0, e1, e2, e3⟩, lW, hbW⟩ := hW
  have HBW := Lib.hid hbW
  clear hbW
  go_loopw [11, 32] (fun _ i wr => ∃ k : Nat, k ≤ l.data.length ∧ i = .int .i64 (k : Int) ∧ Below W.heap.size W wr) (fun _ i _ => l.data.length - (intOf i).toNat)
  case atStart => exact ⟨0, Nat.zero_le _, rfl, Below.refl _ _⟩
  case round =>
    obtain ⟨k, hk, rfl, hbr⟩ := hrel
    by_cases hlt : k < l.data.length
    · obtain ⟨b, o, q, m, cq, rfl, lb, hc, hm⟩ := HD.out k hlt
      have kc := ((HBW.out.trans (hbr.mono HBW.out.size)).cell (p := ⟨b, o + k, none⟩) lb).trans hc
      have n3 : ¬ ((2000 : Int) < (m : Int)) := by omega
      have HBR := Lib.hid hbr
      clear hc hbr
      have HK1 := Lib.hid hlt
      go_wp2_with fail
      go_roundw
      case rel => exact ⟨k + 1, HK1.out, by go_num, HBR.out⟩
      case measure => have := HK1.out; simp [intOf]; omega
    · obtain rfl : k = l.data.length := by omega
      have e2' := (hbr.cell (p := ⟨w.heap.size, 2, none⟩) lW).trans e2
      have HBR := Lib.hid (show Below w.heap.size w wr ∧ Below (w.heap.size + 1) W wr from ⟨HBW.out.trans (hbr.mono HBW.out.size), hbr.mono lW⟩)
      have lWr : w.heap.size < wr.heap.size := Nat.lt_of_lt_of_le lW hbr.size
      clear hbr
      go_wp2_with fail
      refine wp_gen (fun W => (W.cell? ⟨w.heap.size, 0, none⟩ = some (.slice p1 l.nums.length c1) ∧ W.cell? ⟨w.heap.size, 1, none⟩ = some (.slice p2 l.data.length c2) ∧ W.cell? ⟨w.heap.size, 2, none⟩ = some (.slice p3 l.parts.length c3) ∧ W.cell? ⟨w.heap.size, 3, none⟩ = some (.slice p4 l.payload.length c4)) ∧ w.heap.size < W.heap.size ∧ Below w.heap.size w W) ?F (fun W2 hW => ?_)
      case F => 
        have h1 := HBR.out
        exact ⟨⟨(h1.2.cell (p := ⟨w.heap.size, 0, none⟩) (by simp)).trans e0, (h1.2.cell (p := ⟨w.heap.size, 1, none⟩) (by simp)).trans e1, (h1.2.cell (p := ⟨w.heap.size, 2, none⟩) (by simp)).trans e2, (h1.2.cell (p := ⟨w.heap.size, 3, none⟩) (by simp)).trans e3⟩, lWr, h1.1⟩
      clear e0 e1 e2 e3 e2' HBR lWr HBW lW
      obtain ⟨⟨e0, e1, e2, e3⟩, lW2, hbW2⟩ := hW
      have HBW := Lib.hid hbW2
      clear hbW2
      go_loopw [13, 43] (fun _ i wr => ∃ k : Nat, k ≤ l.parts.length ∧ i = .int .i64 (k : Int) ∧ Below W2.heap.size W2 wr) (fun _ i _ => l.parts.length - (intOf i).toNat)
      case atStart => exact ⟨0, Nat.zero_le _, rfl, Below.refl _ _⟩
      case round =>
        obtain ⟨k, hk, rfl, hbr⟩ := hrel
        by_cases hlt : k < l.parts.length
        · obtain ⟨b, o, q, m, cq, q2, m2, cq2, rfl, lb, hc, hc2, hm⟩ := HU.out k hlt
          have kc := ((HBW.out.trans (hbr.mono HBW.out.size)).cell (p := ⟨b, o + k * 2, none⟩) lb).trans hc
          have kc2 := ((HBW.out.trans (hbr.mono HBW.out.size)).cell (p := ⟨b, o + k * 2 + 1, none⟩) lb).trans hc2
          have n3 : ¬ ((2000 : Int) < (m2 : Int)) := by omega
          have HBR := Lib.hid hbr
          clear hc hc2 hbr
          go_wp2_with fail
          go_roundw
          case rel => exact ⟨k + 1, by omega, by go_num, by have h0 := HBR.out; have := h0.size; exact (by repeat (first | with_reducible assumption | with_reducible refine Below.drew ?_ | with_reducible refine below_drewN' ?_ _ | with_reducible refine Below.alloc ?_ ?_ _ | with_reducible refine Below.setCell ?_ ?_ _ | with_reducible exact Nat.le_refl _ | omega | focus (simp; done) | focus (simp; omega)))⟩
          case measure => simp [intOf]; omega
        · obtain rfl : k = l.parts.length := by omega
          have lWr : w.heap.size < wr.heap.size := Nat.lt_of_lt_of_le lW2 hbr.size
          have g0 := (hbr.cell (p := ⟨w.heap.size, 0, none⟩) lW2).trans e0
          have g1 := (hbr.cell (p := ⟨w.heap.size, 1, none⟩) lW2).trans e1
          have g2 := (hbr.cell (p := ⟨w.heap.size, 2, none⟩) lW2).trans e2
          have g3 := (hbr.cell (p := ⟨w.heap.size, 3, none⟩) lW2).trans e3
          have HBR := Lib.hid (HBW.out.trans (hbr.mono HBW.out.size))
          clear e0 e1 e2 e3 HBW hbr
          go_wp2_with fail
          refine (HM.out _ _ (HV.out.below HBR.out)).mono ?_
          rintro e5 w5 ⟨hb5, X, rfl, hX⟩
          replace g0 := (hb5.cell (p := ⟨w.heap.size, 0, none⟩) lWr).trans g0
          replace g1 := (hb5.cell (p := ⟨w.heap.size, 1, none⟩) lWr).trans g1
          replace g2 := (hb5.cell (p := ⟨w.heap.size, 2, none⟩) lWr).trans g2
          replace g3 := (hb5.cell (p := ⟨w.heap.size, 3, none⟩) lWr).trans g3
          have l5 : w.heap.size < w5.heap.size := Nat.lt_of_lt_of_le lWr hb5.size
          have H5 := Lib.hid (HBR.out.trans (hb5.mono HBR.out.size))
          have HX := Lib.hid hX
          clear hb5 hX HBR lWr
          go_wp2_with ((go_at_call 24; go_in))
          by_cases hz : l.payload.length = 0
          · have HZ := Lib.hid (List.eq_nil_of_length_eq_zero hz)
            have hcp : ∀ W, (Builtin.copy_ #[22, 22] 3 #[.slice none 0 0, .slice p4 0 c4]).run Tryz.prog W = .ok (goInt 0) W := fun W => run_copy_none (P := Tryz.prog) W 22 22 3 5 none p4 0 0 0 c4 Tryz.underlying22 sz1B rfl
            rw [hz]
            refine (append_none bare_new).mono ?_
            rintro e6 w6 ⟨rfl, rfl⟩
            go_wp2_with fail
            refine (HS.out _ _ X w5.heap.size HX.out ((Below.refl _ _).alloc (Nat.le_refl _) _) (Nat.le_refl _) (.inl ⟨HZ.out, bare_new⟩)).mono ?_
            rintro e7 w7 ⟨rfl, hb7, D, s, hh⟩
            have HH := Lib.hid hh
            have H7 := Lib.hid (show Below w5.heap.size w5 w7 from Below.trans ((Below.refl _ _).alloc (Nat.le_refl _) _) hb7)
            clear hb7 hh
            go_wp2_with fail
            refine (bytes_of HH.out).mono ?_
            rintro e8 w8 ⟨q, rfl, rfl⟩
            go_wp2_with fail
            refine (bclone_c ((HH.out.bytes (by omega)).keeps (Keeps.drewN (Keeps.refl _ _) _)) (by omega)).mono ?_
            rintro e9 w9 ⟨qq, cq, rfl, hq9, hb9⟩
            have HQ9 := Lib.hid hq9
            have H9 := Lib.hid hb9
            clear hq9 hb9
            go_wp2_with fail
            refine bodyPost_ret (v := .tuple #[.slice qq bs.length cq, .bool true]) (by simp only [results, Tryz.results8]; go_simp) rfl ?_
            have q7 : Below w.heap.size w w7 := H5.out.trans (H7.out.mono H5.out.size)
            have q9 := H9.out
            exact ⟨Below.thenDrew q7 q9 q7.size, qq, _, cq, rfl, HQ9.out.imp (fun _ _ _ => trivial)⟩
          · refine (append_some bare_new (by omega) hp).mono ?_
            rintro e6 w6 ⟨D0, rfl, hh6, hb6⟩
            have hb6' : Below w5.heap.size w5 w6 := Below.trans ((Below.refl _ _).alloc (Nat.le_refl _) _) hb6
            have HC := Lib.hid (hh6.fill (ds := l.payload) (by simp))
            have H6 := Lib.hid (show Below w5.heap.size w5 (w6.setCells D0 0 (l.payload.map (.int .u8))) from below_setCells (Nat.le_of_lt hh6.lt) _ _ hb6')
            have hcp := SB.copied (H4.out.keeps (Keeps.of_below (H5.out.trans (hb6'.mono H5.out.size)))) (by omega) hh6 (by simp)
            replace g3 := (hb6'.cell (p := ⟨w.heap.size, 3, none⟩) l5).trans g3
            have l6 : w.heap.size < w6.heap.size := Nat.lt_of_lt_of_le l5 hb6'.size
            clear hh6 hb6 hb6' g0 g1 g2
            go_wp2_with fail
            refine (HS.out _ _ X w5.heap.size HX.out (H6.out) (Nat.le_refl _) (.inr ⟨D0, 0, HC.out⟩)).mono ?_
            rintro e7 w7 ⟨rfl, hb7, D, s, hh⟩
            have HH := Lib.hid hh
            have H7 := Lib.hid (show Below w5.heap.size w5 w7 from Below.trans (H6.out) hb7)
            clear hb7 hh
            go_wp2_with fail
            refine (bytes_of HH.out).mono ?_
            rintro e8 w8 ⟨q, rfl, rfl⟩
            go_wp2_with fail
            refine (bclone_c ((HH.out.bytes (by omega)).keeps (Keeps.drewN (Keeps.refl _ _) _)) (by omega)).mono ?_
            rintro e9 w9 ⟨qq, cq, rfl, hq9, hb9⟩
            have HQ9 := Lib.hid hq9
            have H9 := Lib.hid hb9
            clear hq9 hb9
            go_wp2_with fail
            refine bodyPost_ret (v := .tuple #[.slice qq bs.length cq, .bool true]) (by simp only [results, Tryz.results8]; go_simp) rfl ?_
            have q7 : Below w.heap.size w w7 := H5.out.trans (H7.out.mono H5.out.size)
            have q9 := H9.out
            exact ⟨Below.thenDrew q7 q9 q7.size, qq, _, cq, rfl, HQ9.out.imp (fun _ _ _ => trivial)⟩

theorem enter_rmcp (args : Array Value) (W : World) : (callFunc 126 args).run Tryz.prog W = .ok (.enter 126 args) W := by kernel_rfl
end Go.Proofs.YtmpifdanfnebpaaGreat
