/-
  impl.decoded, impl.Read of any kind whose decoder and whose data are known.
-/
import Derived.Test.YtmpifdanfnebpaaGreatDec
import Derived.Test.YtmpifdanfnebpaaGreatSpec
namespace Go.Proofs.YtmpifdanfnebpaaGreat
open Go Go.RowKit

/-- What the decoder of a kind makes of bytes: a layer at X, or an error. -/
def DecOf (K : Value) (bs : List Int) (r : Option Lay) (T : TypeId) (Is : World → Nat → Value → Lay → Prop) : Prop :=
  ∀ (v : Value) (w : World), SB w (fun _ => True) v bs → Calls Tryz.prog 36 #[K, v] w fun e w' =>
    Below w.heap.size w w' ∧ ((r = none ∧ ∃ t u, e = .returned (.tuple #[.nilIface, .iface t u])) ∨
      ∃ l X pl, r = some l ∧ e = .returned (.tuple #[.iface T (.pointer (some ⟨X, 0, none⟩)), .nilIface]) ∧ Is w' X pl l)

theorem decoded_c {K v : Value} {bs : List Int} {w : World} {r : Option Lay} {T : TypeId} {Is : World → Nat → Value → Lay → Prop} (h : SB w (fun _ => True) v bs) (hl : bs.length ≤ 2000)
    (hd : DecOf K bs r T Is) (hI : ∀ w w' X pl l, Below w.heap.size w w' → Is w X pl l → Is w' X pl l) :
    Calls Tryz.prog 34 #[K, v] w fun e w' =>
      Below w.heap.size w w' ∧ ((r = none ∧ ∃ u, e = .returned (.tuple #[u, .bool false])) ∨
        ∃ l X pl, r = some l ∧ e = .returned (.tuple #[.iface T (.pointer (some ⟨X, 0, none⟩)), .bool true]) ∧ Is w' X pl l) := by
  have hL : ¬ ((2000 : Int) < (bs.length : Int)) := by omega
  have HH := Lib.hid h
  obtain ⟨p, c, rfl, hnc, hc, hp, hr⟩ := h
  have HR := Lib.hid hr
  have HD := Lib.hid hd
  have HI := Lib.hid hI
  clear hr hd hI hp
  go_enter Tryz.func34, Tryz.ntmps34
  go_wp2_with (first | (go_at_call 25; refine (bclone_c HH.out (by omega)).mono ?_; rintro e1 w1 ⟨q, cq, rfl, hq, hb1⟩; have HQ := Lib.hid hq; have HB := Lib.hid hb1; clear hq hb1) | (go_at_call 36; refine (HD.out _ _ (HQ.out.imp (fun _ _ _ => trivial))).mono ?_; rintro e2 w2 ⟨hb2, ⟨hr, t, u, rfl⟩ | ⟨l, X, pl, hr, rfl, hi⟩⟩; all_goals have HB2 := Lib.hid hb2; all_goals clear hb2))
  ·
    refine wp_region_lex (fun _ => True) [] (.q 0 (.q 1 (.q 2 (.q 3 (.q 4 (.q 5 (.q 6 (.q 7 (.q 8 .done))))))))) (by kernel_rfl) (by kernel_rfl) (fun _ _ d _ _ h => by cases d <;> exact h) (by simp only [Ord.fill, nthOp]; rfl) trivial ?_
    repeat
      first | refine lexO_pass rfl ?_ | (refine lexO_take2 ?_ rfl (by kernel_rfl) trivial (fun w' _ K Q' hK => ?_) ?_; rotate_left; focus (go_wp2_with fail; exact hK))
    refine lexO_done ?_
    go_wp2
    refine bodyPost_ret (v := .tuple #[.nilIface, .bool false]) (by simp only [results, Tryz.results34]; go_simp) rfl ?_
    have hb : Below w.heap.size w w2 := HB.out.trans (HB2.out.mono HB.out.size)
    exact ⟨(by repeat (first | with_reducible assumption | with_reducible refine Below.drew ?_ | with_reducible refine below_drewN' ?_ _ | with_reducible refine Below.alloc ?_ ?_ _ | with_reducible refine Below.setCell ?_ ?_ _ | with_reducible exact Nat.le_refl _ | omega | focus (simp; done) | focus (simp; omega))), .inl ⟨hr, _, rfl⟩⟩
  ·
    refine wp_region_lex (fun _ => True) [] (.q 0 (.q 1 (.q 2 (.q 3 (.q 4 (.q 5 (.q 6 (.q 7 (.q 8 .done))))))))) (by kernel_rfl) (by kernel_rfl) (fun _ _ d _ _ h => by cases d <;> exact h) (by simp only [Ord.fill, nthOp]; rfl) trivial ?_
    repeat
      first | refine lexO_pass rfl ?_ | (refine lexO_take2 ?_ rfl (by kernel_rfl) trivial (fun w' _ K Q' hK => ?_) ?_; rotate_left; focus (go_wp2_with fail; exact hK))
    refine lexO_done ?_
    go_wp2
    refine bodyPost_ret (v := .tuple #[.iface T (.pointer (some ⟨X, 0, none⟩)), .bool true]) (by simp only [results, Tryz.results34]; go_simp) rfl ?_
    have hb : Below w.heap.size w w2 := HB.out.trans (HB2.out.mono HB.out.size)
    exact ⟨(by repeat (first | with_reducible assumption | with_reducible refine Below.drew ?_ | with_reducible refine below_drewN' ?_ _ | with_reducible refine Below.alloc ?_ ?_ _ | with_reducible refine Below.setCell ?_ ?_ _ | with_reducible exact Nat.le_refl _ | omega | focus (simp; done) | focus (simp; omega))), .inr ⟨l, X, pl, hr, rfl, HI.out _ _ _ _ _ (Below.refl _ _).drew hi⟩⟩

/-- What impl.told makes of a layer at X. -/
def ToldOf (T : TypeId) (Is : World → Nat → Value → Lay → Prop) (l : Lay) : Prop :=
  ∀ (X : Nat) (pl : Value) (w : World), Is w X pl l → Calls Tryz.prog 35 #[.iface T (.pointer (some ⟨X, 0, none⟩)), pl] w fun e w' =>
    ∃ u, e = .returned (.tuple #[u, .bool true]) ∧ LayOn w' (fun b => w.heap.size ≤ b) u l ∧ Below w.heap.size w w'

/-- What impl.Read makes of bytes. -/
def ImplOf (K : Value) (bs : List Int) (r : Option Lay) : Prop :=
  ∀ (v : Value) (w : World), SB w (fun _ => True) v bs → Calls Tryz.prog 26 #[K, v] w fun e w' =>
    Below w.heap.size w w' ∧ ((r = none ∧ e = .returned (.tuple #[zlay, .bool false])) ∨ ∃ l u, r = some l ∧ e = .returned (.tuple #[u, .bool true]) ∧ LayIs w' u l)

theorem pay_c {X : Nat} {pl : Value} {w : World} (hc : w.cell? ⟨X, 1, none⟩ = some pl) : Calls Tryz.prog 87 #[.pointer (some ⟨X, 0, none⟩)] w fun e w' => e = .returned pl ∧ w = w' := by
  go_enter Tryz.func87, Tryz.ntmps87
  go_wp2
  exact bodyPost_ret (v := pl) (by simp only [results, Tryz.results87]; go_simp) rfl ⟨rfl, rfl⟩

/-- A layer is four slices. -/
theorem LayOn.agg {w : World} {ok : Nat → Prop} {v : Value} {l : Lay} (h : LayOn w ok v l) : ∃ p1 n1 c1 p2 n2 c2 p3 n3 c3 p4 n4 c4, v = .agg #[.slice p1 n1 c1, .slice p2 n2 c2, .slice p3 n3 c3, .slice p4 n4 c4] ∧ n3 = l.parts.length := by
  obtain ⟨a, b, c, d, rfl, ⟨p1, c1, rfl, _⟩, ⟨vs, _, ⟨p2, c2, rfl, _⟩, _⟩, ⟨us, _, ⟨p3, c3, rfl, _⟩, _⟩, ⟨p4, c4, rfl, _⟩⟩ := h
  exact ⟨_, _, _, _, _, _, _, _, _, _, _, _, rfl, rfl⟩

set_option maxRecDepth 100000 in
theorem read_c {K : Value} {bs : List Int} {r : Option Lay} {T : TypeId} {Is : World → Nat → Value → Lay → Prop} (hl : bs.length ≤ 2000)
    (hd : DecOf K bs r T Is) (hI : ∀ w w' X pl l, Below w.heap.size w w' → Is w X pl l → Is w' X pl l) (ht : ∀ l, r = some l → ToldOf T Is l)
    (hc : ∀ w X pl l, Is w X pl l → w.cell? ⟨X, 1, none⟩ = some pl)
    (hm : ∀ (k : Nat) (a : Addr) (w : World), (method (k + 1) T (.pointer (some a)) "LayerPayload").run Tryz.prog w = .ok (87, .pointer (some a)) w) :
    ImplOf K bs r := by
  intro v w h
  have HH := Lib.hid h
  have HD := Lib.hid hd
  have HI := Lib.hid hI
  have HT := Lib.hid ht
  have HC := Lib.hid hc
  clear h hd hI ht hc
  go_enter Tryz.func26, Tryz.ntmps26
  go_wp2_with (first | (go_at_call 34; refine (decoded_c (HH.out.keeps (by repeat (first | with_reducible assumption | with_reducible exact Keeps.refl _ _ | with_reducible refine Keeps.drew ?_ | with_reducible refine Keeps.drewN ?_ _ | with_reducible refine Keeps.alloc ?_ _ | with_reducible refine Keeps.setCell ?_ ?_ _ | omega | focus (simp; done) | focus (simp; omega)))) hl HD.out HI.out).mono ?_; rintro e2 w2 ⟨hb2, ⟨hr, u, rfl⟩ | ⟨l, X, pl, hr, rfl, hi⟩⟩; all_goals obtain ⟨r0, r1, r2, r3⟩ := cells4 hb2; all_goals obtain ⟨f0, f1, f2, f3⟩ := frozen4 hb2; all_goals have lw := size_new hb2; all_goals have HB2 := Lib.hid hb2; all_goals clear hb2) |
    (go_at_call 87; refine (pay_c (HC.out _ _ _ _ hi)).mono ?_; rintro e w' ⟨rfl, rfl⟩) |
    (go_at_call 35; refine (HT.out _ hr _ _ _ hi).mono ?_; rintro e3 w3 ⟨u, rfl, hu, hb3⟩; obtain ⟨p1, n1, c1, p2, n2, c2, p3, n3, c3, p4, n4, c4, rfl, hn3⟩ := hu.agg; clear hn3; replace r0 := (hb3.cell (p := ⟨w.heap.size, 0, none⟩) lw).trans r0; replace r1 := (hb3.cell (p := ⟨w.heap.size, 1, none⟩) lw).trans r1; replace r2 := (hb3.cell (p := ⟨w.heap.size, 2, none⟩) lw).trans r2; replace r3 := (hb3.cell (p := ⟨w.heap.size, 3, none⟩) lw).trans r3; replace f0 := (hb3.frozen (p := ⟨w.heap.size, 0, none⟩) lw).trans f0; replace f1 := (hb3.frozen (p := ⟨w.heap.size, 1, none⟩) lw).trans f1; replace f2 := (hb3.frozen (p := ⟨w.heap.size, 2, none⟩) lw).trans f2; replace f3 := (hb3.frozen (p := ⟨w.heap.size, 3, none⟩) lw).trans f3; replace lw := Nat.lt_of_lt_of_le lw hb3.size; have HU := Lib.hid hu; have HB3 := Lib.hid hb3; clear hu hb3 hi))
  · refine bodyPost_ret (v := .tuple #[zlay, .bool false]) (by simp only [results, Tryz.results26]; go_simp) rfl ?_
    have hb := below_new HB2.out
    exact ⟨(by repeat (first | with_reducible assumption | with_reducible refine Below.drew ?_ | with_reducible refine below_drewN' ?_ _ | with_reducible refine Below.alloc ?_ ?_ _ | with_reducible refine Below.setCell ?_ ?_ _ | with_reducible exact Nat.le_refl _ | omega | focus (simp; done) | focus (simp; omega))), .inl ⟨hr, rfl⟩⟩
  · refine bodyPost_ret (v := .tuple #[.agg #[.slice p1 n1 c1, .slice p2 n2 c2, .slice p3 n3 c3, .slice p4 n4 c4], .bool true]) (by simp only [results, Tryz.results26]; go_simp) rfl ?_
    have hb : Below w.heap.size w w3 := (below_new HB2.out).trans (HB3.out.mono (below_new HB2.out).size)
    refine ⟨(by repeat (first | with_reducible assumption | with_reducible refine Below.drew ?_ | with_reducible refine below_drewN' ?_ _ | with_reducible refine Below.alloc ?_ ?_ _ | with_reducible refine Below.setCell ?_ ?_ _ | with_reducible exact Nat.le_refl _ | omega | focus (simp; done) | focus (simp; omega))), .inr ⟨l, _, hr, rfl, ?_⟩⟩
    have hlw := size_new HB2.out
    exact (LayOn.keeps (HU.out.imp (fun b _ (hb : w2.heap.size ≤ b) => (by omega : w.heap.size < b))) (by repeat (first | with_reducible assumption | with_reducible exact Keeps.refl _ _ | with_reducible refine Keeps.drew ?_ | with_reducible refine Keeps.drewN ?_ _ | with_reducible refine Keeps.alloc ?_ _ | with_reducible refine Keeps.setCell ?_ ?_ _ | omega | focus (simp; done) | focus (simp; omega)))).imp (fun _ _ _ => trivial)
end Go.Proofs.YtmpifdanfnebpaaGreat
