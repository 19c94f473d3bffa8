/-
  decodeTLSRecords.
-/
import Derived.Test.YtehdhnjimmplhaaTlsE
import Derived.Test.YtehdhnjimmplhaaStls
import Derived.Deep.DeepCutAuto
namespace Go.Proofs.Ytehdhnjimmplhaa
open Go Go.RowKit

theorem Four.ext {α : Type} {E : Nat → Elem α} {T : Nat → TypeId} {J : Nat} {w : World} {X base : Nat} {ok : Nat → Prop} {v : Nat → Value} {xs ys : Nat → List α} (h : Four E T J w X base ok v xs) (he : ∀ i, xs i = ys i) : Four E T J w X base ok v ys := by
  have : xs = ys := funext he
  exact this ▸ h

def TlsDec (X base B : Nat) (w' : World) (e : Ending) (r : Option (List (Nat × (List Int × List Int)))) (xs : Nat → List (List Int × List Int)) : Prop :=
  (r = none ∧ ∃ b, e = .returned (.iface 178 (.pointer (some ⟨b, 0, none⟩)))) ∨
    ∃ rs, r = some rs ∧ e = .returned .nilIface ∧ w'.cell? ⟨X, 1, none⟩ = some (.slice none 0 0) ∧ ∃ v', Four eT tT 2 w' X base (· < B) v' (fun i => xs i ++ tOf i rs)

theorem tell (xs : Nat → List (List Int × List Int)) (a i : Nat) {part : List Int × List Int} {rs : List (Nat × (List Int × List Int))} : upd xs a (xs a ++ [part]) i ++ tOf i rs = xs i ++ tOf i ((a, part) :: rs) := by
  by_cases h : i = a
  · subst h
    rw [upd_same]
    simp [tOf]
  · have h2 : ¬ a = i := fun e => h e.symm
    rw [upd_other _ _ h]
    simp [tOf, h2]
theorem lenn {xs : Nat → List (List Int × List Int)} {n T : Nat} (hx : ∀ i, (xs i).length + n ≤ 4000) (a i : Nat) {part : List Int × List Int} (h1 : 1 ≤ T) (h2 : T ≤ n) : (upd xs a (xs a ++ [part]) i).length + (n - T) ≤ 4000 := by
  have hi := hx i
  by_cases h : i = a
  · subst h
    rw [upd_same, List.length_append]
    simp
    omega
  · rw [upd_other _ _ h]
    omega
theorem TlsDec.ret {X base B : Nat} {w' : World} {e : Ending} {r : Option (List (Nat × (List Int × List Int)))} {xs : Nat → List (List Int × List Int)} (h : TlsDec X base B w' e r xs) : ∃ v, e = .returned v := by
  rcases h with ⟨-, b, rfl⟩ | ⟨rs, -, rfl, -⟩
  · exact ⟨_, rfl⟩
  · exact ⟨_, rfl⟩

/-- What the decoder makes of bytes of at most m. -/
def DecTls (m : Nat) : Prop := ∀ (X base B n c g o k : Nat) (bs : List Int) (w : World) (v : Nat → Value) (xs : Nat → List (List Int × List Int)) (r : Option (List (Nat × (List Int × List Int)))) (u0 u1 : Value)
    (_ : n ≤ m) (_ : n = bs.length) (_ : 0 < n) (_ : n ≤ c) (_ : c ≤ 9223372036854775807) (_ : n ≤ 2000) (_ : ∀ z ∈ bs, 0 ≤ z ∧ z ≤ 255) (_ : RowAt w (· < B) (some ⟨g, o, none⟩) (bs.map (.int .u8))) (_ : B ≤ X)
    (_ : Four eT tT 2 w X base (· < B) v xs) (_ : w.cell? ⟨X, 0, none⟩ = some u0) (_ : w.cell? ⟨X, 1, none⟩ = some u1) (_ : ∀ i, (xs i).length + n ≤ 4000) (_ : dTls bs = some r),
    Calls Try.prog 58 #[.pointer (some ⟨X, 0, none⟩), .slice (some ⟨g, o, none⟩) n c, .iface 173 (.pointer (some ⟨k, 0, none⟩))] w fun e w' => Below X w w' ∧ TlsDec X base B w' e r xs

set_option maxRecDepth 100000 in
set_option maxHeartbeats 16000000 in
theorem dec_tls : ∀ (m : Nat), DecTls m := by
  intro m
  induction m with
  | zero => intro X base B n c g o k bs w v xs r u0 u1 h1 h2 h3; omega
  | succ m ih =>
    intro X base B n c g o k bs w v xs r u0 u1 hnm hn hn0 hc hm hLIM hall hr hBX hF x0 x1 hxl hres
    have HIH := Lib.hid (show DecTls m from ih)
    have HRES := Lib.hid hres
    have HBB := Lib.hid hall
    have HN := Lib.hid hn
    have HR := Lib.hid hr
    have HF := Lib.hid hF
    have HXL := Lib.hid hxl
    have hfz := hF.froz
    have f0 := hfz 0
    have f1 := hfz 1
    have lXb := hF.lt
    have lbw := hF.le
    have m3 := m_trunc
    have lX : X < w.heap.size := by omega
    have HBX := Lib.hid (Below.refl X w)
    obtain ⟨hg, hcell⟩ := rowCells hr (by intro e; have := congrArg List.length e; rw [List.length_map, List.length_nil] at this; omega)
    have hgB : g < B := by
      rcases hr with h | ⟨b, o', hp, hb, _, _⟩
      · have := congrArg List.length h
        rw [List.length_map, List.length_nil] at this
        omega
      · simp only [Option.some.injEq, Addr.mk.injEq, and_true] at hp
        exact hp.1 ▸ hb
    clear ih hres hall hn hr hF hxl hfz
    have nnc : (n : Int) ≤ (c : Int) := by omega
    by_cases hl5 : n < 5
    · have hl2 : (n : Int) < 5 := by omega
      clear hcell
      go_enter Try.func58, Try.ntmps58
      go_wp2_with (first | (go_at_call 31; refine new_c.mono ?_; rintro e w' ⟨rfl, rfl⟩) | (go_at_call 111; refine trunc_c.mono ?_; rintro e w' ⟨rfl, rfl⟩))
      refine bodyPost_ret (v := .iface 178 (.pointer (some ⟨w.heap.size, 0, none⟩))) (by simp only [results, Try.results58]; go_simp) rfl ?_
      have hD := HRES.out
      rw [dTls_few (fun h => by have := HN.out; rw [h] at this; simp at this; omega) (by have := HN.out; omega)] at hD
      have h0 := HBX.out
      exact ⟨(by repeat (first | with_reducible assumption | with_reducible refine Below.drew ?_ | with_reducible refine below_drewN' ?_ _ | with_reducible refine Below.alloc ?_ ?_ _ | with_reducible refine Below.setCell ?_ ?_ _ | with_reducible exact Nat.le_refl _ | omega | focus (simp; done) | focus (simp; omega))), .inl ⟨(Option.some.inj hD).symm, _, rfl⟩⟩
    · have hl2 : ¬ (n : Int) < 5 := by omega
      obtain ⟨y0, y1, y2, y3, y4, rest2, hbs⟩ := five (l := bs) (by have := HN.out; omega)
      subst hbs
      have c0 := hcell 0 _ (by simp; rfl)
      have c1 := hcell 1 _ (by simp; rfl)
      have c2 := hcell 2 _ (by simp; rfl)
      have c3 := hcell 3 _ (by simp; rfl)
      have c4 := hcell 4 _ (by simp; rfl)
      rw [Nat.add_zero] at c0
      have b0 := HBB.out y0 (by simp)
      have b1 := HBB.out y1 (by simp)
      have b2 := HBB.out y2 (by simp)
      have b3 := HBB.out y3 (by simp)
      have b4 := HBB.out y4 (by simp)
      have HRL := Lib.hid (show n = rest2.length + 5 by have := HN.out; simpa using this)
      obtain ⟨N, hNN⟩ : ∃ N : Nat, y3 * 256 + y4 = (N : Int) := ⟨(y3 * 256 + y4).toNat, by omega⟩
      have HCELL5 := Lib.hid (show ∀ i x, (rest2.map (Value.int .u8))[i]? = some x → w.cell? ⟨g, o + 5 + i, none⟩ = some x from fun i x hx => by
        have := hcell (5 + i) x (by rw [show 5 + i = i + 1 + 1 + 1 + 1 + 1 by omega]; simpa using hx)
        rwa [← Nat.add_assoc] at this)
      clear hcell
      have e5 : (5 : Int) ≤ (c : Int) := by omega
      have e3 : (3 : Int) ≤ (c : Int) := by omega
      have e1 : ¬ c = 1 := by omega
      have e33 : ¬ c = 3 := by omega
      have n0 : (0 : Int) < (n : Int) := by omega
      have hgX : ¬ g = X := by omega
      have nXg : ¬ X = g := by omega
      have lg1 : g < w.heap.size + 1 := by omega
      have lg2 : g < w.heap.size + 1 + 1 := by omega
      have lg3 : g < w.heap.size + 1 + 1 + 1 := by omega
      have lX1 : X < w.heap.size + 1 := by omega
      have lX2 : X < w.heap.size + 1 + 1 := by omega
      have nXw : ¬ X = w.heap.size := by omega
      have nwX : ¬ w.heap.size = X := by omega
      have hNb : (N : Int) ≤ 65535 := by omega
      go_enter Try.func58, Try.ntmps58
      go_wp2_with fail
      refine wp_region_lex (fun _ => True) [5] (.q 0 (.q 1 (.q 2 (.l 3 (.q 4 (.l 5 .done .stop)) .stop)))) (by kernel_rfl) (by kernel_rfl) (fun _ _ d _ _ h => by cases d <;> exact h) (by simp only [Ord.fill, nthOp]; rfl) trivial ?_
      repeat
        first | refine lexO_pass rfl ?_ | (refine lexO_take2 ?_ rfl (by kernel_rfl) trivial (fun w' _ K Q' hK => ?_) ?_; rotate_left; focus (go_wp2_with fail; exact hK))
      refine lexO_do rfl (fun K hK => ?_) lexO_stop
      go_wp2_with (go_at_call 48; refine (u16_c y1 y2 (by omega) b1 b2 (by go_simp) (by go_simp)).mono ?_; rintro e w' ⟨rfl, rfl⟩)
      refine ⟨fun _ => trivial, ?_⟩
      repeat
        first | refine lexO_pass rfl ?_ | (refine lexO_take2 ?_ rfl (by kernel_rfl) trivial (fun w' _ K Q' hK => ?_) ?_; rotate_left; focus (go_wp2_with fail; exact hK))
      refine lexO_do rfl (fun K hK => ?_) lexO_stop
      go_wp2_with fail
      refine step_last (by decide) (lexO_done ?_)
      go_upto_region 8 with fail
      refine wp_region_lex (fun _ => True) [5] (.q 0 (.q 1 (.q 2 (.l 3 (.q 4 (.l 5 .done .stop)) .stop)))) (by kernel_rfl) (by kernel_rfl) (fun _ _ d _ _ h => by cases d <;> exact h) (by simp only [Ord.fill, nthOp]; rfl) trivial ?_
      repeat
        first | refine lexO_pass rfl ?_ | (refine lexO_take2 ?_ rfl (by kernel_rfl) trivial (fun w' _ K Q' hK => ?_) ?_; rotate_left; focus (go_wp2_with fail; exact hK))
      refine lexO_do rfl (fun K hK => ?_) lexO_stop
      go_wp2_with (go_at_call 48; refine (u16_c y3 y4 (by omega) b3 b4 (by go_simp) (by go_simp)).mono ?_; rintro e w' ⟨rfl, rfl⟩)
      refine ⟨fun _ => trivial, ?_⟩
      repeat
        first | refine lexO_pass rfl ?_ | (refine lexO_take2 ?_ rfl (by kernel_rfl) trivial (fun w' _ K Q' hK => ?_) ?_; rotate_left; focus (go_wp2_with fail; exact hK))
      refine lexO_do rfl (fun K hK => ?_) lexO_stop
      go_wp2_with fail
      refine step_last (by decide) (lexO_done ?_)
      go_upto_region 9 with fail
      obtain ⟨H, hH⟩ : ∃ H, H = w.heap.size := ⟨_, rfl⟩
      rw [← hH]
      refine wp_gen (fun W => Four eT tT 2 W X base (· < B) v xs ∧ W.cell? ⟨X, 1, none⟩ = some (.slice none 0 0) ∧ (∃ u, W.cell? ⟨X, 0, none⟩ = some u) ∧ (W.cell? ⟨H, 0, none⟩ = some (.int .u8 y0) ∧ W.cell? ⟨H, 1, none⟩ = some (.int .u16 (y1 * 256 + y2)) ∧ W.cell? ⟨H, 2, none⟩ = some (.int .u16 (N : Int))) ∧ H < W.heap.size ∧ Keeps (· < B) w W ∧ Below X w W) ?F (fun W1 hW1 => ?_)
      case F =>
        subst hH
        have h1 := (HF.out.other (fun b hb => by omega) (j := 0) (.inl (by omega)) (.slice (some ⟨g, o, none⟩) n c)).other (fun b hb => by omega) (j := 1) (.inl (by omega)) (.slice none 0 0)
        refine ⟨h1.below ?_, by go_simp, ⟨.slice (some ⟨g, o, none⟩) n c, by go_simp⟩, ⟨by go_simp, by go_simp, by go_simp⟩, by first | omega | (simp; done) | (simp; omega), (by repeat (first | with_reducible assumption | with_reducible exact Keeps.refl _ _ | with_reducible refine Keeps.drew ?_ | with_reducible refine Keeps.drewN ?_ _ | with_reducible refine Keeps.alloc ?_ _ | with_reducible refine Keeps.setCell ?_ ?_ _ | omega | focus (simp; done) | focus (simp; omega))), by have h0 := Below.refl X w; exact (by repeat (first | with_reducible assumption | with_reducible refine Below.drew ?_ | with_reducible refine below_drewN' ?_ _ | with_reducible refine Below.alloc ?_ ?_ _ | with_reducible refine Below.setCell ?_ ?_ _ | with_reducible exact Nat.le_refl _ | omega | focus (simp; done) | focus (simp; omega)))⟩
        have h0 := Below.refl (((w.setCell ⟨X, 0, none⟩ (.slice (some ⟨g, o, none⟩) n c)).setCell ⟨X, 1, none⟩ (.slice none 0 0))).heap.size ((w.setCell ⟨X, 0, none⟩ (.slice (some ⟨g, o, none⟩) n c)).setCell ⟨X, 1, none⟩ (.slice none 0 0))
        exact (by repeat (first | with_reducible assumption | with_reducible refine Below.drew ?_ | with_reducible refine below_drewN' ?_ _ | with_reducible refine Below.alloc ?_ ?_ _ | with_reducible refine Below.setCell ?_ ?_ _ | with_reducible exact Nat.le_refl _ | omega | focus (simp; done) | focus (simp; omega)))
      obtain ⟨hF1, x1', ⟨u0', x0'⟩, ⟨q0, q1, q2⟩, lH, hK1, hB1⟩ := hW1
      have HF1 := Lib.hid hF1
      have HK1 := Lib.hid hK1
      have HB1 := Lib.hid hB1
      have lwH : w.heap.size ≤ H := by omega
      have leW := hF1.le
      have lXW : X < W1.heap.size := by omega
      clear hF1 hK1 hB1 hH c0 c1 c2 c3 c4 f0 f1 x0 x1 lg1 lg2 lg3 lX1 lX2 nXw nwX
      have lX1 : X < W1.heap.size := lXW
      have HOW := Lib.hid (show ∀ i k, i < 4 → (v i).ownBlock = some k → base ≤ k ∧ k < W1.heap.size from fun i k hi hk => HF1.out.own hi hk)
      have lgW : g < W1.heap.size := by omega
      have ngH : ¬ g = H := by omega
      have nHg : ¬ H = g := by omega
      have nXH : ¬ X = H := by omega
      have nHX : ¬ H = X := by omega
      by_cases hfit : N ≤ rest2.length
      · have hl : ¬ (n : Int) < 5 + (N : Int) := by have := HRL.out; omega
        have hlc : (5 : Int) + (N : Int) ≤ (c : Int) := by have := HRL.out; omega
        by_cases hkind : y0 < 20 ∨ 23 < y0
        · have hk20 : (y0 == 20) = false := by simp; omega
          have hk21 : (y0 == 21) = false := by simp; omega
          have hk22 : (y0 == 22) = false := by simp; omega
          have hk23 : (y0 == 23) = false := by simp; omega
          go_wp2_with (first | (go_at_call 31; refine new_c.mono ?_; rintro e w' ⟨rfl, rfl⟩) | (go_at_call 111; refine trunc_c.mono ?_; rintro e w' ⟨rfl, rfl⟩))
          refine bodyPost_ret (v := .iface 178 (.pointer (some ⟨W1.heap.size, 0, none⟩))) (by simp only [results, Try.results58]; go_simp) rfl ?_
          have hD := HRES.out
          rw [dTls_kind hkind] at hD
          have h0 := HB1.out
          exact ⟨(by repeat (first | with_reducible assumption | with_reducible refine Below.drew ?_ | with_reducible refine below_drewN' ?_ _ | with_reducible refine Below.alloc ?_ ?_ _ | with_reducible refine Below.setCell ?_ ?_ _ | with_reducible exact Nat.le_refl _ | omega | focus (simp; done) | focus (simp; omega))), .inl ⟨(Option.some.inj hD).symm, _, rfl⟩⟩
        · have hkk : y0 = 20 ∨ y0 = 21 ∨ y0 = 22 ∨ y0 = 23 := by omega
          rcases hkk with hkk | hkk | hkk | hkk
          · subst hkk
            have hbody : rest2.take N = [1] := by
              refine Classical.byContradiction fun hne => ?_
              have hD := HRES.out
              rw [dTls_open hNN (by omega) hfit (by unfold tRec; rw [if_pos rfl, if_neg hne])] at hD
              cases hD
            have hN1 : N = 1 := by have := congrArg List.length hbody; rw [List.length_take] at this; simp at this; omega
            subst hN1
            obtain ⟨r3, hr3⟩ : ∃ r, rest2 = 1 :: r := ⟨rest2.drop 1, by have h := List.take_append_drop 1 rest2; rw [hbody] at h; exact h.symm⟩
            have e5c := HK1.out.cell hgB (HCELL5.out 0 (.int .u8 1) (by rw [hr3]; rfl))
            rw [Nat.add_zero] at e5c
            have hc5 : ¬ c = 5 := by omega
            go_wp2_with fail
            refine wp_region_on (fun b => b = H) (fun b hb => by first | omega | (rcases hb with hb | hb <;> omega) | (rcases hb with hb | hb <;> simp <;> omega)) [] (.q 0 (.q 1 (.q 2 (.q 3 (.q 4 (.q 5 (.l 6 (.q 7 .done) .stop))))))) (by kernel_rfl) (by kernel_rfl) (fun _ _ d _ _ h => by cases d <;> exact h) (by simp only [Ord.fill, nthOp]; rfl) ?_; intro hSm
            repeat
              first | refine lexO_pass rfl ?_ | (refine lexO_take2 ?_ rfl (by kernel_rfl) (by with_reducible assumption) (fun w' hS K Q' hK => ?_) ?_; rotate_left; focus (have hS2 := hS.2; clear hS; go_wp2_with fail; exact hK))
            refine lexO_do rfl (fun K hK => ?_) lexO_stop
            go_wp2_with fail
            refine (rec_ccs (Z := W1.heap.size) (g := g) (o := o + 5) (c := c - 5) (k := k) (v := y1 * 256 + y2) (by (try simp only [heap_drew]); repeat (first | (with_reducible refine heap_last ?_; focus (simp; done)) | with_reducible refine heap_past ?_ | (with_reducible refine heap_set ?_ ?_; focus (first | omega | (simp; done) | (simp; omega))) | with_reducible assumption)) (by go_simp) (by omega)).mono ?_
            rintro e w2 ⟨rfl, hz, hb2⟩
            have l2 := hb2.size
            have lZ2 : W1.heap.size < w2.heap.size := by simp at l2; omega
            have hkH : Keeps (fun b => b = H) _ w2 := ⟨hb2.size, fun b hb _ => hb2.block b (by omega)⟩
            have lX2 : X < w2.heap.size := by omega
            have HB2 := Lib.hid (show Below W1.heap.size W1 w2 from Below.trans (by have h0 := Below.refl W1.heap.size W1; exact (by repeat (first | with_reducible assumption | with_reducible refine Below.drew ?_ | with_reducible refine below_drewN' ?_ _ | with_reducible refine Below.alloc ?_ ?_ _ | with_reducible refine Below.setCell ?_ ?_ _ | with_reducible exact Nat.le_refl _ | omega | focus (simp; done) | focus (simp; omega)))) hb2)
            have HF2 := Lib.hid (HF1.out.below HB2.out)
            have HKS := Lib.hid (show Keeps (· < B) w w2 from ⟨Nat.le_trans HK1.out.size HB2.out.size, fun b hb hl => (HB2.out.block b (by have := HK1.out.size; omega)).trans (HK1.out.block b hb hl)⟩)
            have z0 : w2.cell? ⟨W1.heap.size, 0, none⟩ = some (.int .u8 20) := hz 0 _ rfl
            have z1 : w2.cell? ⟨W1.heap.size, 1, none⟩ = some (.int .u16 (y1 * 256 + y2)) := hz 1 _ rfl
            have z2 : w2.cell? ⟨W1.heap.size, 2, none⟩ = some (.int .u16 1) := hz 2 _ rfl
            have z3 : w2.cell? ⟨W1.heap.size, 3, none⟩ = some (.int .u8 1) := hz 3 _ rfl
            have xi : w2.cell? ⟨X, 2, none⟩ = some (v 0) := by simpa using HF2.out.cells 0 (by omega)
            have xf : w2.frozen? ⟨X, 2, none⟩ = false := HF2.out.froz 2
            go_wp2_with fail
            have hS2 := SameOn.keeps (SameOn.refl (fun b hb => by subst hb; simp; omega)) hkH (fun b hb => hb)
            first | refine step_and hS2 (fun _ => ?_) | refine ⟨hS2, ?_⟩
            repeat
              first | refine lexO_pass rfl ?_ | (refine lexO_take2 ?_ rfl (by kernel_rfl) (by with_reducible assumption) (fun w' hS K Q' hK => ?_) ?_; rotate_left; focus (have hS2 := hS.2; clear hS; go_wp2_with fail; exact hK))
            refine lexO_done ?_
            clear hb2 hS2 hkH
            go_wp2_with fail
            refine wp_region_on (fun b => b = X ∨ b = W1.heap.size) (fun b hb => by first | omega | (rcases hb with hb | hb <;> omega) | (rcases hb with hb | hb <;> simp <;> omega)) [10] (.q 0 (.q 1 (.q 2 (.q 3 (.q 4 (.q 5 (.l 6 (.l 7 (.q 8 (.q 9 (.l 10 .done .stop))) .stop) .stop))))))) (by kernel_rfl) (by kernel_rfl) (fun _ _ d _ _ h => by cases d <;> exact h) (by simp only [Ord.fill, nthOp]; rfl) ?_; intro hSm
            repeat
              first | refine lexO_pass rfl ?_ | (refine lexO_take2 ?_ rfl (by kernel_rfl) (by with_reducible assumption) (fun w' hS K Q' hK => ?_) ?_; rotate_left; focus (have hS2 := hS.2; clear hS; go_wp2_with fail; exact hK))
            refine lexO_do rfl (fun K hK => ?_) lexO_stop
            go_wp2_with fail
            first | (refine step_and (show SameOn (fun b => b = X ∨ b = W1.heap.size) w2 _ from (by repeat (first | with_reducible assumption | (with_reducible refine SameOn.refl (fun b hb => ?_); first | omega | (rcases hb with hb | hb <;> omega) | (rcases hb with hb | hb <;> simp <;> omega)) | with_reducible refine SameOn.drew ?_ | with_reducible refine SameOn.alloc ?_ _ | (refine SameOn.below ?_ (by with_reducible assumption))))) (fun _ => ?_)) | refine ⟨(show SameOn (fun b => b = X ∨ b = W1.heap.size) w2 _ from (by repeat (first | with_reducible assumption | (with_reducible refine SameOn.refl (fun b hb => ?_); first | omega | (rcases hb with hb | hb <;> omega) | (rcases hb with hb | hb <;> simp <;> omega)) | with_reducible refine SameOn.drew ?_ | with_reducible refine SameOn.alloc ?_ _ | (refine SameOn.below ?_ (by with_reducible assumption))))), ?_⟩
            repeat
              first | refine lexO_pass rfl ?_ | (refine lexO_take2 ?_ rfl (by kernel_rfl) (by with_reducible assumption) (fun w' hS K Q' hK => ?_) ?_; rotate_left; focus (have hS2 := hS.2; clear hS; go_wp2_with fail; exact hK))
            refine lexO_do rfl (fun K hK => ?_) lexO_stop
            refine wp_append_all (E := eT 0) (.tmp 77) (.tmp 79) 152 164 _ 8 rfl Try.underlying152 infoCcs rfl (by decide) (by decide) (v := v 0) rfl (((HF2.out.below (show Below w2.heap.size w2 _ from by have h0 := Below.refl w2.heap.size w2; exact (by repeat (first | with_reducible assumption | with_reducible refine Below.drew ?_ | with_reducible refine below_drewN' ?_ _ | with_reducible refine Below.alloc ?_ ?_ _ | with_reducible refine Below.setCell ?_ ?_ _ | with_reducible exact Nat.le_refl _ | omega | focus (simp; done) | focus (simp; omega))))).row (i := 0) (by omega))) rfl (cs := [.int .u8 20, .int .u16 (y1 * 256 + y2), .int .u16 1, .int .u8 1]) (y := ([0, 20, y1 * 256 + y2, 1, 1], ([] : List Int))) ?hcells ?hrep (by have := HXL.out 0; omega) (by first | omega | (simp; omega)) (fun q' c2 w5 hr5 hg5 ha5 => hK _ _ ?_)
            case hcells =>
              intro j u hu
              rcases j with _ | _ | _ | _ | j
              · simp at hu; subst hu; go_simp
              · simp at hu; subst hu; go_simp
              · simp at hu; subst hu; go_simp
              · simp at hu; subst hu; go_simp
              · simp at hu
            case hrep => exact ⟨_, _, _, rfl, rfl, by omega, by omega, by omega⟩
            have hk5 := grown_keeps (N := base) hg5 (fun k hk => (HF2.out.own (i := 0) (by omega) hk).1)
            have hX5 : w5.cell? ⟨X, 2, none⟩ = some (v 0) := hk5.cell lXb (by go_simp)
            have hXf5 : w5.frozen? ⟨X, 2, none⟩ = false := hk5.frozen lXb (by first | omega | (simp; omega)) (by go_simp)
            have lX5 : X < w5.heap.size := World.block_lt_of_cell? _ _ hX5
            have hkX : Keeps (fun b => b = X ∨ b = W1.heap.size) w2 w5 := ⟨by have := hg5.size; simp at this; omega, fun b hb hl => (hg5.block b (by simp; omega) (fun he => by have := HOW.out 0 b (by omega) he.symm; rcases hb with hb | hb <;> omega)).trans (Below.heap_alloc _ _ _ hl)⟩
            first | refine step_and (SameOn.keeps (SameOn.refl (fun b hb => by rcases hb with hb | hb <;> omega)) hkX (fun b hb => hb)) (fun _ => ?_) | refine ⟨SameOn.keeps (SameOn.refl (fun b hb => by rcases hb with hb | hb <;> omega)) hkX (fun b hb => hb), ?_⟩
            have H6 := Lib.hid ((HF2.out.below (show Below w2.heap.size w2 _ from by have h0 := Below.refl w2.heap.size w2; exact (by repeat (first | with_reducible assumption | with_reducible refine Below.drew ?_ | with_reducible refine below_drewN' ?_ _ | with_reducible refine Below.alloc ?_ ?_ _ | with_reducible refine Below.setCell ?_ ?_ _ | with_reducible exact Nat.le_refl _ | omega | focus (simp; done) | focus (simp; omega))))).step (fun b hb => by omega) (i := 0) (by omega) hr5 hg5 ha5)
            have HB6 := Lib.hid (show Below X w w5 from (((HB1.out.trans (HB2.out.mono (by omega)))).trans (show Below X w2 _ from by have h0 := Below.refl X w2; exact (by repeat (first | with_reducible assumption | with_reducible refine Below.drew ?_ | with_reducible refine below_drewN' ?_ _ | with_reducible refine Below.alloc ?_ ?_ _ | with_reducible refine Below.setCell ?_ ?_ _ | with_reducible exact Nat.le_refl _ | omega | focus (simp; done) | focus (simp; omega))))).grown hg5 (by simp; omega) (fun k hk => by have := (HOW.out 0 k (by omega) hk).1; omega))
            have x15 : w5.cell? ⟨X, 1, none⟩ = some (.slice none 0 0) := hk5.cell lXb (by have := (HB2.out.cell (p := ⟨X, 1, none⟩) lX1).trans x1'; go_simp)
            have x05 : w5.cell? ⟨X, 0, none⟩ = some u0' := hk5.cell lXb (by have := (HB2.out.cell (p := ⟨X, 0, none⟩) lX1).trans x0'; go_simp)
            clear hr5 hg5 ha5 hkX
            repeat
              first | refine lexO_pass rfl ?_ | (refine lexO_take2 ?_ rfl (by kernel_rfl) (by with_reducible assumption) (fun w' hS K Q' hK => ?_) ?_; rotate_left; focus (have hS2 := hS.2; clear hS; go_wp2_with fail; exact hK))
            refine lexO_do rfl (fun K hK => ?_) lexO_stop
            go_wp2_with fail
            first | refine step_last (by decide) (lexO_done ?_) | refine lexO_done ?_
            go_upto_region 40 with fail
            obtain ⟨W6, hW6⟩ : ∃ W6, W6 = w5.setCell ⟨X, 2, none⟩ (.slice (some ⟨q', 0, none⟩) ((xs 0).length + 1) c2) := ⟨_, rfl⟩
            have H7 := Lib.hid (show Four eT tT 2 W6 X base (· < B) (upd v 0 (.slice (some ⟨q', 0, none⟩) ((xs 0).length + 1) c2)) (upd xs 0 (xs 0 ++ [([0, 20, y1 * 256 + y2, 1, 1], ([] : List Int))])) from by rw [hW6]; exact H6.out)
            have HB7 := Lib.hid (show Below X w W6 from by rw [hW6]; exact HB6.out.setCell (Nat.le_refl _) _)
            have x17 : W6.cell? ⟨X, 1, none⟩ = some (.slice none 0 0) := by rw [hW6]; go_simp
            have x07 : W6.cell? ⟨X, 0, none⟩ = some u0' := by rw [hW6]; go_simp
            refine wp_gen (fun W => W = W6) ?G (fun W hWW => ?_)
            case G => rw [hW6]
            subst hWW
            clear hW6 x15 x05 hX5 hXf5
            have hrec := dTls_more (a := 20) (b := y1) (c := y2) (d := y3) (e := y4) (rest := rest2) hNN (by omega) hfit (show tRec 20 (y1 * 256 + y2) (rest2.take 1) = some (0, ([0, 20, y1 * 256 + y2, 1, 1], [])) from by unfold tRec; rw [if_pos rfl, if_pos hbody])
            have HREC := Lib.hid hrec
            clear hrec
            by_cases hend : n = 6
            · have hendI : ((n : Int) == 6) = true := by simp; omega
              go_wp2_with fail
              refine bodyPost_ret (v := .nilIface) (by simp only [results, Try.results58]; go_simp) rfl ?_
              have hD := HRES.out
              rw [HREC.out, show rest2.drop 1 = [] from List.drop_eq_nil_of_le (by have := HRL.out; omega), dTls_nil] at hD
              exact ⟨HB7.out, .inr ⟨_, (Option.some.inj hD).symm, rfl, x17, _, H7.out.ext (fun i => by have h := tell xs 0 i (part := ([0, 20, y1 * 256 + y2, 1, 1], ([] : List Int))) (rs := []); rw [tOf_nil, List.append_nil] at h; exact h)⟩⟩
            · have hendI : ((n : Int) == 6) = false := by simp; omega
              have hcT : ¬ c = 6 := by have := HRL.out; omega
              have hcI : (6 : Int) ≤ (c : Int) := by have := HRL.out; omega
              have hnI : (6 : Int) ≤ (n : Int) := by have := HRL.out; omega
              obtain ⟨r', hr', hrr⟩ : ∃ r', dTls (rest2.drop 1) = some r' ∧ r = r'.map ((0, ([0, 20, y1 * 256 + y2, 1, 1], ([] : List Int))) :: ·) := by
                have hD := HRES.out
                rw [HREC.out] at hD
                cases hq : dTls (rest2.drop 1) with
                | none => rw [hq] at hD; cases hD
                | some q => rw [hq] at hD; exact ⟨q, rfl, (Option.some.inj hD).symm⟩
              have HRR := Lib.hid hrr
              have HQ := Lib.hid hr'
              have HKW := Lib.hid (show Keeps (· < B) w W from ⟨HB7.out.size, fun b hb _ => HB7.out.block b (by have : b < B := hb; omega)⟩)
              have HRW := Lib.hid (show RowAt W (· < B) (some ⟨g, o + 6, none⟩) ((rest2.drop 1).map (.int .u8)) from by
                have h := (HR.out.keeps HKW.out).drop (1 + 5)
                rw [show o + (1 + 5) = o + 6 by omega] at h
                rw [List.map_drop]
                exact h)
              clear hrr hr'
              go_wp2_with (go_at_call 58; refine (HIH.out X base B _ _ g _ k (rest2.drop 1) W _ _ _ _ _ (by omega) (by rw [List.length_drop]; have := HRL.out; omega) (by have := HRL.out; omega) (by omega) (by omega) (by omega) (fun z hz => HBB.out z (by have := List.mem_of_mem_drop hz; simp [this])) HRW.out hBX H7.out x07 x17 (fun i => lenn HXL.out 0 i (by omega) (by omega)) HQ.out).mono ?_; rintro e w9 ⟨hB9, hD9⟩; obtain ⟨ev, rfl⟩ := hD9.ret)
              refine bodyPost_ret (v := ev) (by simp only [results, Try.results58]; go_simp) rfl ?_
              rcases hD9 with ⟨h1, b, hb⟩ | ⟨rs, h1, hb, hx, v', hF'⟩
              · exact ⟨HB7.out.trans hB9, .inl ⟨by rw [HRR.out, h1]; rfl, b, hb⟩⟩
              · exact ⟨HB7.out.trans hB9, .inr ⟨_, by rw [HRR.out, h1]; rfl, hb, hx, v', hF'.ext (fun i => tell xs 0 i)⟩⟩
          · subst hkk
            have hN2 : (rest2.take N).length = 2 := by
              refine Classical.byContradiction fun hne => ?_
              have hD := HRES.out
              rw [dTls_open hNN (by omega) hfit (tRec21 hne)] at hD
              cases hD
            have hN1 : N = 2 := by rw [List.length_take] at hN2; omega
            subst hN1
            obtain ⟨za, zb, r3, hr3⟩ : ∃ z z' r, rest2 = z :: z' :: r := by
              match rest2, hfit with
              | z :: z' :: r, _ => exact ⟨z, z', r, rfl⟩
            have e5c := HK1.out.cell hgB (HCELL5.out 0 (.int .u8 za) (by rw [hr3]; rfl))
            rw [Nat.add_zero] at e5c
            have e6c := HK1.out.cell hgB (HCELL5.out 1 (.int .u8 zb) (by rw [hr3]; rfl))
            have hc5 : ¬ c = 5 := by omega
            have bza := HBB.out za (by rw [hr3]; simp)
            have bzb := HBB.out zb (by rw [hr3]; simp)
            go_wp2_with fail
            refine wp_region_on (fun b => b = H) (fun b hb => by first | omega | (rcases hb with hb | hb <;> omega) | (rcases hb with hb | hb <;> simp <;> omega)) [] (.q 0 (.q 1 (.q 2 (.q 3 (.q 4 (.q 5 (.l 6 (.q 7 .done) .stop))))))) (by kernel_rfl) (by kernel_rfl) (fun _ _ d _ _ h => by cases d <;> exact h) (by simp only [Ord.fill, nthOp]; rfl) ?_; intro hSm
            repeat
              first | refine lexO_pass rfl ?_ | (refine lexO_take2 ?_ rfl (by kernel_rfl) (by with_reducible assumption) (fun w' hS K Q' hK => ?_) ?_; rotate_left; focus (have hS2 := hS.2; clear hS; go_wp2_with fail; exact hK))
            refine lexO_do rfl (fun K hK => ?_) lexO_stop
            go_wp2_with fail
            refine (rec_al (Z := W1.heap.size) (g := g) (o := o + 5) (c := c - 5) (k := k) (v := y1 * 256 + y2) (a := za) (b := zb) (by (try simp only [heap_drew]); repeat (first | (with_reducible refine heap_last ?_; focus (simp; done)) | with_reducible refine heap_past ?_ | (with_reducible refine heap_set ?_ ?_; focus (first | omega | (simp; done) | (simp; omega))) | with_reducible assumption)) (by go_simp) (by go_simp) (by omega)).mono ?_
            rintro e w2 ⟨rfl, hz, hb2⟩
            have l2 := hb2.size
            have lZ2 : W1.heap.size < w2.heap.size := by simp at l2; omega
            have hkH : Keeps (fun b => b = H) _ w2 := ⟨hb2.size, fun b hb _ => hb2.block b (by omega)⟩
            have lX2 : X < w2.heap.size := by omega
            have HB2 := Lib.hid (show Below W1.heap.size W1 w2 from Below.trans (by have h0 := Below.refl W1.heap.size W1; exact (by repeat (first | with_reducible assumption | with_reducible refine Below.drew ?_ | with_reducible refine below_drewN' ?_ _ | with_reducible refine Below.alloc ?_ ?_ _ | with_reducible refine Below.setCell ?_ ?_ _ | with_reducible exact Nat.le_refl _ | omega | focus (simp; done) | focus (simp; omega)))) hb2)
            have HF2 := Lib.hid (HF1.out.below HB2.out)
            have HKS := Lib.hid (show Keeps (· < B) w w2 from ⟨Nat.le_trans HK1.out.size HB2.out.size, fun b hb hl => (HB2.out.block b (by have := HK1.out.size; omega)).trans (HK1.out.block b hb hl)⟩)
            have z0 : w2.cell? ⟨W1.heap.size, 0, none⟩ = some (.int .u8 21) := hz 0 _ rfl
            have z1 : w2.cell? ⟨W1.heap.size, 1, none⟩ = some (.int .u16 (y1 * 256 + y2)) := hz 1 _ rfl
            have z2 : w2.cell? ⟨W1.heap.size, 2, none⟩ = some (.int .u16 2) := hz 2 _ rfl
            have z3 : w2.cell? ⟨W1.heap.size, 3, none⟩ = some (.int .u8 za) := hz 3 _ rfl
            have z4 : w2.cell? ⟨W1.heap.size, 4, none⟩ = some (.int .u8 zb) := hz 4 _ rfl
            have z5 : w2.cell? ⟨W1.heap.size, 5, none⟩ = some (.slice none 0 0) := hz 5 _ rfl
            have xi : w2.cell? ⟨X, 5, none⟩ = some (v 3) := by simpa using HF2.out.cells 3 (by omega)
            have xf : w2.frozen? ⟨X, 5, none⟩ = false := HF2.out.froz 5
            go_wp2_with fail
            have hS2 := SameOn.keeps (SameOn.refl (fun b hb => by subst hb; simp; omega)) hkH (fun b hb => hb)
            first | refine step_and hS2 (fun _ => ?_) | refine ⟨hS2, ?_⟩
            repeat
              first | refine lexO_pass rfl ?_ | (refine lexO_take2 ?_ rfl (by kernel_rfl) (by with_reducible assumption) (fun w' hS K Q' hK => ?_) ?_; rotate_left; focus (have hS2 := hS.2; clear hS; go_wp2_with fail; exact hK))
            refine lexO_done ?_
            clear hb2 hS2 hkH
            go_wp2_with fail
            refine wp_region_on (fun b => b = X ∨ b = W1.heap.size) (fun b hb => by first | omega | (rcases hb with hb | hb <;> omega) | (rcases hb with hb | hb <;> simp <;> omega)) [10] (.q 0 (.q 1 (.q 2 (.q 3 (.q 4 (.q 5 (.l 6 (.l 7 (.q 8 (.q 9 (.l 10 .done .stop))) .stop) .stop))))))) (by kernel_rfl) (by kernel_rfl) (fun _ _ d _ _ h => by cases d <;> exact h) (by simp only [Ord.fill, nthOp]; rfl) ?_; intro hSm
            repeat
              first | refine lexO_pass rfl ?_ | (refine lexO_take2 ?_ rfl (by kernel_rfl) (by with_reducible assumption) (fun w' hS K Q' hK => ?_) ?_; rotate_left; focus (have hS2 := hS.2; clear hS; go_wp2_with fail; exact hK))
            refine lexO_do rfl (fun K hK => ?_) lexO_stop
            go_wp2_with fail
            first | (refine step_and (show SameOn (fun b => b = X ∨ b = W1.heap.size) w2 _ from (by repeat (first | with_reducible assumption | (with_reducible refine SameOn.refl (fun b hb => ?_); first | omega | (rcases hb with hb | hb <;> omega) | (rcases hb with hb | hb <;> simp <;> omega)) | with_reducible refine SameOn.drew ?_ | with_reducible refine SameOn.alloc ?_ _ | (refine SameOn.below ?_ (by with_reducible assumption))))) (fun _ => ?_)) | refine ⟨(show SameOn (fun b => b = X ∨ b = W1.heap.size) w2 _ from (by repeat (first | with_reducible assumption | (with_reducible refine SameOn.refl (fun b hb => ?_); first | omega | (rcases hb with hb | hb <;> omega) | (rcases hb with hb | hb <;> simp <;> omega)) | with_reducible refine SameOn.drew ?_ | with_reducible refine SameOn.alloc ?_ _ | (refine SameOn.below ?_ (by with_reducible assumption))))), ?_⟩
            repeat
              first | refine lexO_pass rfl ?_ | (refine lexO_take2 ?_ rfl (by kernel_rfl) (by with_reducible assumption) (fun w' hS K Q' hK => ?_) ?_; rotate_left; focus (have hS2 := hS.2; clear hS; go_wp2_with fail; exact hK))
            refine lexO_do rfl (fun K hK => ?_) lexO_stop
            refine wp_append_all (E := eT 3) (.tmp 99) (.tmp 101) 155 172 _ 32 rfl Try.underlying155 infoAl rfl (by decide) (by decide) (v := v 3) rfl (((HF2.out.below (show Below w2.heap.size w2 _ from by have h0 := Below.refl w2.heap.size w2; exact (by repeat (first | with_reducible assumption | with_reducible refine Below.drew ?_ | with_reducible refine below_drewN' ?_ _ | with_reducible refine Below.alloc ?_ ?_ _ | with_reducible refine Below.setCell ?_ ?_ _ | with_reducible exact Nat.le_refl _ | omega | focus (simp; done) | focus (simp; omega))))).row (i := 3) (by omega))) rfl (cs := [.int .u8 21, .int .u16 (y1 * 256 + y2), .int .u16 2, .int .u8 za, .int .u8 zb, .slice none 0 0]) (y := ([3, 21, y1 * 256 + y2, 2, za, zb], ([] : List Int))) ?hcells ?hrep (by have := HXL.out 3; omega) (by first | omega | (simp; omega)) (fun q' c2 w5 hr5 hg5 ha5 => hK _ _ ?_)
            case hcells =>
              intro j u hu
              rcases j with _ | _ | _ | _ | _ | _ | j
              · simp at hu; subst hu; go_simp
              · simp at hu; subst hu; go_simp
              · simp at hu; subst hu; go_simp
              · simp at hu; subst hu; go_simp
              · simp at hu; subst hu; go_simp
              · simp at hu; subst hu; go_simp
              · simp at hu
            case hrep => exact ⟨_, _, _, _, _, rfl, rfl, SB.nil _ _, by omega, by omega, by omega, by omega⟩
            have hk5 := grown_keeps (N := base) hg5 (fun k hk => (HF2.out.own (i := 3) (by omega) hk).1)
            have hX5 : w5.cell? ⟨X, 5, none⟩ = some (v 3) := hk5.cell lXb (by go_simp)
            have hXf5 : w5.frozen? ⟨X, 5, none⟩ = false := hk5.frozen lXb (by first | omega | (simp; omega)) (by go_simp)
            have lX5 : X < w5.heap.size := World.block_lt_of_cell? _ _ hX5
            have hkX : Keeps (fun b => b = X ∨ b = W1.heap.size) w2 w5 := ⟨by have := hg5.size; simp at this; omega, fun b hb hl => (hg5.block b (by simp; omega) (fun he => by have := HOW.out 3 b (by omega) he.symm; rcases hb with hb | hb <;> omega)).trans (Below.heap_alloc _ _ _ hl)⟩
            first | refine step_and (SameOn.keeps (SameOn.refl (fun b hb => by rcases hb with hb | hb <;> omega)) hkX (fun b hb => hb)) (fun _ => ?_) | refine ⟨SameOn.keeps (SameOn.refl (fun b hb => by rcases hb with hb | hb <;> omega)) hkX (fun b hb => hb), ?_⟩
            have H6 := Lib.hid ((HF2.out.below (show Below w2.heap.size w2 _ from by have h0 := Below.refl w2.heap.size w2; exact (by repeat (first | with_reducible assumption | with_reducible refine Below.drew ?_ | with_reducible refine below_drewN' ?_ _ | with_reducible refine Below.alloc ?_ ?_ _ | with_reducible refine Below.setCell ?_ ?_ _ | with_reducible exact Nat.le_refl _ | omega | focus (simp; done) | focus (simp; omega))))).step (fun b hb => by omega) (i := 3) (by omega) hr5 hg5 ha5)
            have HB6 := Lib.hid (show Below X w w5 from (((HB1.out.trans (HB2.out.mono (by omega)))).trans (show Below X w2 _ from by have h0 := Below.refl X w2; exact (by repeat (first | with_reducible assumption | with_reducible refine Below.drew ?_ | with_reducible refine below_drewN' ?_ _ | with_reducible refine Below.alloc ?_ ?_ _ | with_reducible refine Below.setCell ?_ ?_ _ | with_reducible exact Nat.le_refl _ | omega | focus (simp; done) | focus (simp; omega))))).grown hg5 (by simp; omega) (fun k hk => by have := (HOW.out 3 k (by omega) hk).1; omega))
            have x15 : w5.cell? ⟨X, 1, none⟩ = some (.slice none 0 0) := hk5.cell lXb (by have := (HB2.out.cell (p := ⟨X, 1, none⟩) lX1).trans x1'; go_simp)
            have x05 : w5.cell? ⟨X, 0, none⟩ = some u0' := hk5.cell lXb (by have := (HB2.out.cell (p := ⟨X, 0, none⟩) lX1).trans x0'; go_simp)
            clear hr5 hg5 ha5 hkX
            repeat
              first | refine lexO_pass rfl ?_ | (refine lexO_take2 ?_ rfl (by kernel_rfl) (by with_reducible assumption) (fun w' hS K Q' hK => ?_) ?_; rotate_left; focus (have hS2 := hS.2; clear hS; go_wp2_with fail; exact hK))
            refine lexO_do rfl (fun K hK => ?_) lexO_stop
            go_wp2_with fail
            first | refine step_last (by decide) (lexO_done ?_) | refine lexO_done ?_
            go_upto_region 40 with fail
            obtain ⟨W6, hW6⟩ : ∃ W6, W6 = w5.setCell ⟨X, 5, none⟩ (.slice (some ⟨q', 0, none⟩) ((xs 3).length + 1) c2) := ⟨_, rfl⟩
            have H7 := Lib.hid (show Four eT tT 2 W6 X base (· < B) (upd v 3 (.slice (some ⟨q', 0, none⟩) ((xs 3).length + 1) c2)) (upd xs 3 (xs 3 ++ [([3, 21, y1 * 256 + y2, 2, za, zb], ([] : List Int))])) from by rw [hW6]; exact H6.out)
            have HB7 := Lib.hid (show Below X w W6 from by rw [hW6]; exact HB6.out.setCell (Nat.le_refl _) _)
            have x17 : W6.cell? ⟨X, 1, none⟩ = some (.slice none 0 0) := by rw [hW6]; go_simp
            have x07 : W6.cell? ⟨X, 0, none⟩ = some u0' := by rw [hW6]; go_simp
            refine wp_gen (fun W => W = W6) ?G (fun W hWW => ?_)
            case G => rw [hW6]
            subst hWW
            clear hW6 x15 x05 hX5 hXf5
            have hrec := dTls_more (a := 21) (b := y1) (c := y2) (d := y3) (e := y4) (rest := rest2) hNN (by omega) hfit (show tRec 21 (y1 * 256 + y2) (rest2.take 2) = some (3, ([3, 21, y1 * 256 + y2, 2, za, zb], [])) from by rw [hr3]; rfl)
            have HREC := Lib.hid hrec
            clear hrec
            by_cases hend : n = 7
            · have hendI : ((n : Int) == 7) = true := by simp; omega
              go_wp2_with fail
              refine bodyPost_ret (v := .nilIface) (by simp only [results, Try.results58]; go_simp) rfl ?_
              have hD := HRES.out
              rw [HREC.out, show rest2.drop 2 = [] from List.drop_eq_nil_of_le (by have := HRL.out; omega), dTls_nil] at hD
              exact ⟨HB7.out, .inr ⟨_, (Option.some.inj hD).symm, rfl, x17, _, H7.out.ext (fun i => by have h := tell xs 3 i (part := ([3, 21, y1 * 256 + y2, 2, za, zb], ([] : List Int))) (rs := []); rw [tOf_nil, List.append_nil] at h; exact h)⟩⟩
            · have hendI : ((n : Int) == 7) = false := by simp; omega
              have hcT : ¬ c = 7 := by have := HRL.out; omega
              have hcI : (7 : Int) ≤ (c : Int) := by have := HRL.out; omega
              have hnI : (7 : Int) ≤ (n : Int) := by have := HRL.out; omega
              obtain ⟨r', hr', hrr⟩ : ∃ r', dTls (rest2.drop 2) = some r' ∧ r = r'.map ((3, ([3, 21, y1 * 256 + y2, 2, za, zb], ([] : List Int))) :: ·) := by
                have hD := HRES.out
                rw [HREC.out] at hD
                cases hq : dTls (rest2.drop 2) with
                | none => rw [hq] at hD; cases hD
                | some q => rw [hq] at hD; exact ⟨q, rfl, (Option.some.inj hD).symm⟩
              have HRR := Lib.hid hrr
              have HQ := Lib.hid hr'
              have HKW := Lib.hid (show Keeps (· < B) w W from ⟨HB7.out.size, fun b hb _ => HB7.out.block b (by have : b < B := hb; omega)⟩)
              have HRW := Lib.hid (show RowAt W (· < B) (some ⟨g, o + 7, none⟩) ((rest2.drop 2).map (.int .u8)) from by
                have h := (HR.out.keeps HKW.out).drop (2 + 5)
                rw [show o + (2 + 5) = o + 7 by omega] at h
                rw [List.map_drop]
                exact h)
              clear hrr hr'
              go_wp2_with (go_at_call 58; refine (HIH.out X base B _ _ g _ k (rest2.drop 2) W _ _ _ _ _ (by omega) (by rw [List.length_drop]; have := HRL.out; omega) (by have := HRL.out; omega) (by omega) (by omega) (by omega) (fun z hz => HBB.out z (by have := List.mem_of_mem_drop hz; simp [this])) HRW.out hBX H7.out x07 x17 (fun i => lenn HXL.out 3 i (by omega) (by omega)) HQ.out).mono ?_; rintro e w9 ⟨hB9, hD9⟩; obtain ⟨ev, rfl⟩ := hD9.ret)
              refine bodyPost_ret (v := ev) (by simp only [results, Try.results58]; go_simp) rfl ?_
              rcases hD9 with ⟨h1, b, hb⟩ | ⟨rs, h1, hb, hx, v', hF'⟩
              · exact ⟨HB7.out.trans hB9, .inl ⟨by rw [HRR.out, h1]; rfl, b, hb⟩⟩
              · exact ⟨HB7.out.trans hB9, .inr ⟨_, by rw [HRR.out, h1]; rfl, hb, hx, v', hF'.ext (fun i => tell xs 3 i)⟩⟩
          · subst hkk
            generalize hA5 : (if c = 5 then some (⟨g, o, none⟩ : Addr) else some ⟨g, o + 5, none⟩) = A5
            go_wp2_with fail
            refine wp_region_on (fun b => b = H) (fun b hb => by first | omega | (rcases hb with hb | hb <;> omega) | (rcases hb with hb | hb <;> simp <;> omega)) [] (.q 0 (.q 1 (.q 2 (.q 3 (.q 4 (.q 5 (.l 6 (.q 7 .done) .stop))))))) (by kernel_rfl) (by kernel_rfl) (fun _ _ d _ _ h => by cases d <;> exact h) (by simp only [Ord.fill, nthOp]; rfl) ?_; intro hSm
            repeat
              first | refine lexO_pass rfl ?_ | (refine lexO_take2 ?_ rfl (by kernel_rfl) (by with_reducible assumption) (fun w' hS K Q' hK => ?_) ?_; rotate_left; focus (have hS2 := hS.2; clear hS; go_wp2_with fail; exact hK))
            refine lexO_do rfl (fun K hK => ?_) lexO_stop
            go_wp2_with fail
            refine (rec_hs (Z := W1.heap.size) (k := k) (v := y1 * 256 + y2) (n := (N : Int)) (by (try simp only [heap_drew]); repeat (first | (with_reducible refine heap_last ?_; focus (simp; done)) | with_reducible refine heap_past ?_ | (with_reducible refine heap_set ?_ ?_; focus (first | omega | (simp; done) | (simp; omega))) | with_reducible assumption))).mono ?_
            rintro e w2 ⟨rfl, hz, hb2⟩
            have l2 := hb2.size
            have lZ2 : W1.heap.size < w2.heap.size := by simp at l2; omega
            have hkH : Keeps (fun b => b = H) _ w2 := ⟨hb2.size, fun b hb _ => hb2.block b (by omega)⟩
            have lX2 : X < w2.heap.size := by omega
            have HB2 := Lib.hid (show Below W1.heap.size W1 w2 from Below.trans (by have h0 := Below.refl W1.heap.size W1; exact (by repeat (first | with_reducible assumption | with_reducible refine Below.drew ?_ | with_reducible refine below_drewN' ?_ _ | with_reducible refine Below.alloc ?_ ?_ _ | with_reducible refine Below.setCell ?_ ?_ _ | with_reducible exact Nat.le_refl _ | omega | focus (simp; done) | focus (simp; omega)))) hb2)
            have HF2 := Lib.hid (HF1.out.below HB2.out)
            have HKS := Lib.hid (show Keeps (· < B) w w2 from ⟨Nat.le_trans HK1.out.size HB2.out.size, fun b hb hl => (HB2.out.block b (by have := HK1.out.size; omega)).trans (HK1.out.block b hb hl)⟩)
            have z0 : w2.cell? ⟨W1.heap.size, 0, none⟩ = some (.int .u8 22) := hz 0 _ rfl
            have z1 : w2.cell? ⟨W1.heap.size, 1, none⟩ = some (.int .u16 (y1 * 256 + y2)) := hz 1 _ rfl
            have z2 : w2.cell? ⟨W1.heap.size, 2, none⟩ = some (.int .u16 (N : Int)) := hz 2 _ rfl
            have xi : w2.cell? ⟨X, 3, none⟩ = some (v 1) := by simpa using HF2.out.cells 1 (by omega)
            have xf : w2.frozen? ⟨X, 3, none⟩ = false := HF2.out.froz 3
            go_wp2_with fail
            have hS2 := SameOn.keeps (SameOn.refl (fun b hb => by subst hb; simp; omega)) hkH (fun b hb => hb)
            first | refine step_and hS2 (fun _ => ?_) | refine ⟨hS2, ?_⟩
            repeat
              first | refine lexO_pass rfl ?_ | (refine lexO_take2 ?_ rfl (by kernel_rfl) (by with_reducible assumption) (fun w' hS K Q' hK => ?_) ?_; rotate_left; focus (have hS2 := hS.2; clear hS; go_wp2_with fail; exact hK))
            refine lexO_done ?_
            clear hb2 hS2 hkH
            go_wp2_with fail
            refine wp_region_on (fun b => b = X ∨ b = W1.heap.size) (fun b hb => by first | omega | (rcases hb with hb | hb <;> omega) | (rcases hb with hb | hb <;> simp <;> omega)) [10] (.q 0 (.q 1 (.q 2 (.q 3 (.q 4 (.q 5 (.l 6 (.l 7 (.q 8 (.q 9 (.l 10 .done .stop))) .stop) .stop))))))) (by kernel_rfl) (by kernel_rfl) (fun _ _ d _ _ h => by cases d <;> exact h) (by simp only [Ord.fill, nthOp]; rfl) ?_; intro hSm
            repeat
              first | refine lexO_pass rfl ?_ | (refine lexO_take2 ?_ rfl (by kernel_rfl) (by with_reducible assumption) (fun w' hS K Q' hK => ?_) ?_; rotate_left; focus (have hS2 := hS.2; clear hS; go_wp2_with fail; exact hK))
            refine lexO_do rfl (fun K hK => ?_) lexO_stop
            go_wp2_with fail
            first | (refine step_and (show SameOn (fun b => b = X ∨ b = W1.heap.size) w2 _ from (by repeat (first | with_reducible assumption | (with_reducible refine SameOn.refl (fun b hb => ?_); first | omega | (rcases hb with hb | hb <;> omega) | (rcases hb with hb | hb <;> simp <;> omega)) | with_reducible refine SameOn.drew ?_ | with_reducible refine SameOn.alloc ?_ _ | (refine SameOn.below ?_ (by with_reducible assumption))))) (fun _ => ?_)) | refine ⟨(show SameOn (fun b => b = X ∨ b = W1.heap.size) w2 _ from (by repeat (first | with_reducible assumption | (with_reducible refine SameOn.refl (fun b hb => ?_); first | omega | (rcases hb with hb | hb <;> omega) | (rcases hb with hb | hb <;> simp <;> omega)) | with_reducible refine SameOn.drew ?_ | with_reducible refine SameOn.alloc ?_ _ | (refine SameOn.below ?_ (by with_reducible assumption))))), ?_⟩
            repeat
              first | refine lexO_pass rfl ?_ | (refine lexO_take2 ?_ rfl (by kernel_rfl) (by with_reducible assumption) (fun w' hS K Q' hK => ?_) ?_; rotate_left; focus (have hS2 := hS.2; clear hS; go_wp2_with fail; exact hK))
            refine lexO_do rfl (fun K hK => ?_) lexO_stop
            refine wp_append_all (E := eT 1) (.tmp 121) (.tmp 123) 153 166 _ 6 rfl Try.underlying153 infoHs rfl (by decide) (by decide) (v := v 1) rfl (((HF2.out.below (show Below w2.heap.size w2 _ from by have h0 := Below.refl w2.heap.size w2; exact (by repeat (first | with_reducible assumption | with_reducible refine Below.drew ?_ | with_reducible refine below_drewN' ?_ _ | with_reducible refine Below.alloc ?_ ?_ _ | with_reducible refine Below.setCell ?_ ?_ _ | with_reducible exact Nat.le_refl _ | omega | focus (simp; done) | focus (simp; omega))))).row (i := 1) (by omega))) rfl (cs := [.int .u8 22, .int .u16 (y1 * 256 + y2), .int .u16 (N : Int)]) (y := ([1, 22, y1 * 256 + y2, (N : Int)], ([] : List Int))) ?hcells ?hrep (by have := HXL.out 1; omega) (by first | omega | (simp; omega)) (fun q' c2 w5 hr5 hg5 ha5 => hK _ _ ?_)
            case hcells =>
              intro j u hu
              rcases j with _ | _ | _ | j
              · simp at hu; subst hu; go_simp
              · simp at hu; subst hu; go_simp
              · simp at hu; subst hu; go_simp
              · simp at hu
            case hrep => exact ⟨_, _, rfl, rfl, by omega, by omega⟩
            have hk5 := grown_keeps (N := base) hg5 (fun k hk => (HF2.out.own (i := 1) (by omega) hk).1)
            have hX5 : w5.cell? ⟨X, 3, none⟩ = some (v 1) := hk5.cell lXb (by go_simp)
            have hXf5 : w5.frozen? ⟨X, 3, none⟩ = false := hk5.frozen lXb (by first | omega | (simp; omega)) (by go_simp)
            have lX5 : X < w5.heap.size := World.block_lt_of_cell? _ _ hX5
            have hkX : Keeps (fun b => b = X ∨ b = W1.heap.size) w2 w5 := ⟨by have := hg5.size; simp at this; omega, fun b hb hl => (hg5.block b (by simp; omega) (fun he => by have := HOW.out 1 b (by omega) he.symm; rcases hb with hb | hb <;> omega)).trans (Below.heap_alloc _ _ _ hl)⟩
            first | refine step_and (SameOn.keeps (SameOn.refl (fun b hb => by rcases hb with hb | hb <;> omega)) hkX (fun b hb => hb)) (fun _ => ?_) | refine ⟨SameOn.keeps (SameOn.refl (fun b hb => by rcases hb with hb | hb <;> omega)) hkX (fun b hb => hb), ?_⟩
            have H6 := Lib.hid ((HF2.out.below (show Below w2.heap.size w2 _ from by have h0 := Below.refl w2.heap.size w2; exact (by repeat (first | with_reducible assumption | with_reducible refine Below.drew ?_ | with_reducible refine below_drewN' ?_ _ | with_reducible refine Below.alloc ?_ ?_ _ | with_reducible refine Below.setCell ?_ ?_ _ | with_reducible exact Nat.le_refl _ | omega | focus (simp; done) | focus (simp; omega))))).step (fun b hb => by omega) (i := 1) (by omega) hr5 hg5 ha5)
            have HB6 := Lib.hid (show Below X w w5 from (((HB1.out.trans (HB2.out.mono (by omega)))).trans (show Below X w2 _ from by have h0 := Below.refl X w2; exact (by repeat (first | with_reducible assumption | with_reducible refine Below.drew ?_ | with_reducible refine below_drewN' ?_ _ | with_reducible refine Below.alloc ?_ ?_ _ | with_reducible refine Below.setCell ?_ ?_ _ | with_reducible exact Nat.le_refl _ | omega | focus (simp; done) | focus (simp; omega))))).grown hg5 (by simp; omega) (fun k hk => by have := (HOW.out 1 k (by omega) hk).1; omega))
            have x15 : w5.cell? ⟨X, 1, none⟩ = some (.slice none 0 0) := hk5.cell lXb (by have := (HB2.out.cell (p := ⟨X, 1, none⟩) lX1).trans x1'; go_simp)
            have x05 : w5.cell? ⟨X, 0, none⟩ = some u0' := hk5.cell lXb (by have := (HB2.out.cell (p := ⟨X, 0, none⟩) lX1).trans x0'; go_simp)
            clear hr5 hg5 ha5 hkX
            repeat
              first | refine lexO_pass rfl ?_ | (refine lexO_take2 ?_ rfl (by kernel_rfl) (by with_reducible assumption) (fun w' hS K Q' hK => ?_) ?_; rotate_left; focus (have hS2 := hS.2; clear hS; go_wp2_with fail; exact hK))
            refine lexO_do rfl (fun K hK => ?_) lexO_stop
            go_wp2_with fail
            first | refine step_last (by decide) (lexO_done ?_) | refine lexO_done ?_
            go_upto_region 40 with fail
            obtain ⟨W6, hW6⟩ : ∃ W6, W6 = w5.setCell ⟨X, 3, none⟩ (.slice (some ⟨q', 0, none⟩) ((xs 1).length + 1) c2) := ⟨_, rfl⟩
            have H7 := Lib.hid (show Four eT tT 2 W6 X base (· < B) (upd v 1 (.slice (some ⟨q', 0, none⟩) ((xs 1).length + 1) c2)) (upd xs 1 (xs 1 ++ [([1, 22, y1 * 256 + y2, (N : Int)], ([] : List Int))])) from by rw [hW6]; exact H6.out)
            have HB7 := Lib.hid (show Below X w W6 from by rw [hW6]; exact HB6.out.setCell (Nat.le_refl _) _)
            have x17 : W6.cell? ⟨X, 1, none⟩ = some (.slice none 0 0) := by rw [hW6]; go_simp
            have x07 : W6.cell? ⟨X, 0, none⟩ = some u0' := by rw [hW6]; go_simp
            refine wp_gen (fun W => W = W6) ?G (fun W hWW => ?_)
            case G => rw [hW6]
            subst hWW
            clear hW6 x15 x05 hX5 hXf5
            have hrec := dTls_more (a := 22) (b := y1) (c := y2) (d := y3) (e := y4) (rest := rest2) hNN (by omega) hfit (tRec22 (N := N) (by rw [List.length_take]; omega))
            have HREC := Lib.hid hrec
            clear hrec
            by_cases hend : n = (5 + N)
            · have hendI : ((n : Int) == (5 + (N : Int))) = true := by simp; omega
              go_wp2_with fail
              refine bodyPost_ret (v := .nilIface) (by simp only [results, Try.results58]; go_simp) rfl ?_
              have hD := HRES.out
              rw [HREC.out, show rest2.drop N = [] from List.drop_eq_nil_of_le (by have := HRL.out; omega), dTls_nil] at hD
              exact ⟨HB7.out, .inr ⟨_, (Option.some.inj hD).symm, rfl, x17, _, H7.out.ext (fun i => by have h := tell xs 1 i (part := ([1, 22, y1 * 256 + y2, (N : Int)], ([] : List Int))) (rs := []); rw [tOf_nil, List.append_nil] at h; exact h)⟩⟩
            · have hendI : ((n : Int) == (5 + (N : Int))) = false := by simp; omega
              have hcT : ¬ c = (5 + N) := by have := HRL.out; omega
              have hcI : ((5 + (N : Int)) : Int) ≤ (c : Int) := by have := HRL.out; omega
              have hnI : ((5 + (N : Int)) : Int) ≤ (n : Int) := by have := HRL.out; omega
              obtain ⟨r', hr', hrr⟩ : ∃ r', dTls (rest2.drop N) = some r' ∧ r = r'.map ((1, ([1, 22, y1 * 256 + y2, (N : Int)], ([] : List Int))) :: ·) := by
                have hD := HRES.out
                rw [HREC.out] at hD
                cases hq : dTls (rest2.drop N) with
                | none => rw [hq] at hD; cases hD
                | some q => rw [hq] at hD; exact ⟨q, rfl, (Option.some.inj hD).symm⟩
              have HRR := Lib.hid hrr
              have HQ := Lib.hid hr'
              have HKW := Lib.hid (show Keeps (· < B) w W from ⟨HB7.out.size, fun b hb _ => HB7.out.block b (by have : b < B := hb; omega)⟩)
              have HRW := Lib.hid (show RowAt W (· < B) (some ⟨g, o + (5 + N), none⟩) ((rest2.drop N).map (.int .u8)) from by
                have h := (HR.out.keeps HKW.out).drop (N + 5)
                rw [show o + (N + 5) = o + (5 + N) by omega] at h
                rw [List.map_drop]
                exact h)
              clear hrr hr'
              go_wp2_with (go_at_call 58; refine (HIH.out X base B _ _ g _ k (rest2.drop N) W _ _ _ _ _ (by omega) (by rw [List.length_drop]; have := HRL.out; omega) (by have := HRL.out; omega) (by omega) (by omega) (by omega) (fun z hz => HBB.out z (by have := List.mem_of_mem_drop hz; simp [this])) HRW.out hBX H7.out x07 x17 (fun i => lenn HXL.out 1 i (by omega) (by omega)) HQ.out).mono ?_; rintro e w9 ⟨hB9, hD9⟩; obtain ⟨ev, rfl⟩ := hD9.ret)
              refine bodyPost_ret (v := ev) (by simp only [results, Try.results58]; go_simp) rfl ?_
              rcases hD9 with ⟨h1, b, hb⟩ | ⟨rs, h1, hb, hx, v', hF'⟩
              · exact ⟨HB7.out.trans hB9, .inl ⟨by rw [HRR.out, h1]; rfl, b, hb⟩⟩
              · exact ⟨HB7.out.trans hB9, .inr ⟨_, by rw [HRR.out, h1]; rfl, hb, hx, v', hF'.ext (fun i => tell xs 1 i)⟩⟩
          · subst hkk
            generalize hA5 : (if c = 5 then some (⟨g, o, none⟩ : Addr) else some ⟨g, o + 5, none⟩) = A5
            have hsb := SB.from (lo := 5) (hi := 5 + N) HR.out (by omega) (by have := HN.out; have := HRL.out; omega) (by have := HN.out; omega) hm hA5
            rw [show 5 + N - 5 = N by omega] at hsb
            have HSB := Lib.hid (show SB w (fun b => b < B) (.slice A5 N (c - 5)) (rest2.take N) from hsb)
            clear hsb
            go_wp2_with fail
            refine wp_region_on (fun b => b = H) (fun b hb => by first | omega | (rcases hb with hb | hb <;> omega) | (rcases hb with hb | hb <;> simp <;> omega)) [] (.q 0 (.q 1 (.q 2 (.q 3 (.q 4 (.q 5 (.l 6 (.q 7 .done) .stop))))))) (by kernel_rfl) (by kernel_rfl) (fun _ _ d _ _ h => by cases d <;> exact h) (by simp only [Ord.fill, nthOp]; rfl) ?_; intro hSm
            repeat
              first | refine lexO_pass rfl ?_ | (refine lexO_take2 ?_ rfl (by kernel_rfl) (by with_reducible assumption) (fun w' hS K Q' hK => ?_) ?_; rotate_left; focus (have hS2 := hS.2; clear hS; go_wp2_with fail; exact hK))
            refine lexO_do rfl (fun K hK => ?_) lexO_stop
            go_wp2_with fail
            refine (rec_app (Z := W1.heap.size) (m := N) (k := k) (v := y1 * 256 + y2) (by omega) (by (try simp only [heap_drew]); repeat (first | (with_reducible refine heap_last ?_; focus (simp; done)) | with_reducible refine heap_past ?_ | (with_reducible refine heap_set ?_ ?_; focus (first | omega | (simp; done) | (simp; omega))) | with_reducible assumption))).mono ?_
            rintro e w2 ⟨rfl, hz, hb2⟩
            have l2 := hb2.size
            have lZ2 : W1.heap.size < w2.heap.size := by simp at l2; omega
            have hkH : Keeps (fun b => b = H) _ w2 := ⟨hb2.size, fun b hb _ => hb2.block b (by omega)⟩
            have lX2 : X < w2.heap.size := by omega
            have HB2 := Lib.hid (show Below W1.heap.size W1 w2 from Below.trans (by have h0 := Below.refl W1.heap.size W1; exact (by repeat (first | with_reducible assumption | with_reducible refine Below.drew ?_ | with_reducible refine below_drewN' ?_ _ | with_reducible refine Below.alloc ?_ ?_ _ | with_reducible refine Below.setCell ?_ ?_ _ | with_reducible exact Nat.le_refl _ | omega | focus (simp; done) | focus (simp; omega)))) hb2)
            have HF2 := Lib.hid (HF1.out.below HB2.out)
            have HKS := Lib.hid (show Keeps (· < B) w w2 from ⟨Nat.le_trans HK1.out.size HB2.out.size, fun b hb hl => (HB2.out.block b (by have := HK1.out.size; omega)).trans (HK1.out.block b hb hl)⟩)
            have z0 : w2.cell? ⟨W1.heap.size, 0, none⟩ = some (.int .u8 23) := hz 0 _ rfl
            have z1 : w2.cell? ⟨W1.heap.size, 1, none⟩ = some (.int .u16 (y1 * 256 + y2)) := hz 1 _ rfl
            have z2 : w2.cell? ⟨W1.heap.size, 2, none⟩ = some (.int .u16 (N : Int)) := hz 2 _ rfl
            have z3 : w2.cell? ⟨W1.heap.size, 3, none⟩ = some (.slice A5 N (c - 5)) := hz 3 _ rfl
            have xi : w2.cell? ⟨X, 4, none⟩ = some (v 2) := by simpa using HF2.out.cells 2 (by omega)
            have xf : w2.frozen? ⟨X, 4, none⟩ = false := HF2.out.froz 4
            go_wp2_with fail
            have hS2 := SameOn.keeps (SameOn.refl (fun b hb => by subst hb; simp; omega)) hkH (fun b hb => hb)
            first | refine step_and hS2 (fun _ => ?_) | refine ⟨hS2, ?_⟩
            repeat
              first | refine lexO_pass rfl ?_ | (refine lexO_take2 ?_ rfl (by kernel_rfl) (by with_reducible assumption) (fun w' hS K Q' hK => ?_) ?_; rotate_left; focus (have hS2 := hS.2; clear hS; go_wp2_with fail; exact hK))
            refine lexO_done ?_
            clear hb2 hS2 hkH
            go_wp2_with fail
            refine wp_region_on (fun b => b = X ∨ b = W1.heap.size) (fun b hb => by first | omega | (rcases hb with hb | hb <;> omega) | (rcases hb with hb | hb <;> simp <;> omega)) [10] (.q 0 (.q 1 (.q 2 (.q 3 (.q 4 (.q 5 (.l 6 (.l 7 (.q 8 (.q 9 (.l 10 .done .stop))) .stop) .stop))))))) (by kernel_rfl) (by kernel_rfl) (fun _ _ d _ _ h => by cases d <;> exact h) (by simp only [Ord.fill, nthOp]; rfl) ?_; intro hSm
            repeat
              first | refine lexO_pass rfl ?_ | (refine lexO_take2 ?_ rfl (by kernel_rfl) (by with_reducible assumption) (fun w' hS K Q' hK => ?_) ?_; rotate_left; focus (have hS2 := hS.2; clear hS; go_wp2_with fail; exact hK))
            refine lexO_do rfl (fun K hK => ?_) lexO_stop
            go_wp2_with fail
            first | (refine step_and (show SameOn (fun b => b = X ∨ b = W1.heap.size) w2 _ from (by repeat (first | with_reducible assumption | (with_reducible refine SameOn.refl (fun b hb => ?_); first | omega | (rcases hb with hb | hb <;> omega) | (rcases hb with hb | hb <;> simp <;> omega)) | with_reducible refine SameOn.drew ?_ | with_reducible refine SameOn.alloc ?_ _ | (refine SameOn.below ?_ (by with_reducible assumption))))) (fun _ => ?_)) | refine ⟨(show SameOn (fun b => b = X ∨ b = W1.heap.size) w2 _ from (by repeat (first | with_reducible assumption | (with_reducible refine SameOn.refl (fun b hb => ?_); first | omega | (rcases hb with hb | hb <;> omega) | (rcases hb with hb | hb <;> simp <;> omega)) | with_reducible refine SameOn.drew ?_ | with_reducible refine SameOn.alloc ?_ _ | (refine SameOn.below ?_ (by with_reducible assumption))))), ?_⟩
            repeat
              first | refine lexO_pass rfl ?_ | (refine lexO_take2 ?_ rfl (by kernel_rfl) (by with_reducible assumption) (fun w' hS K Q' hK => ?_) ?_; rotate_left; focus (have hS2 := hS.2; clear hS; go_wp2_with fail; exact hK))
            refine lexO_do rfl (fun K hK => ?_) lexO_stop
            refine wp_append_all (E := eT 2) (.tmp 143) (.tmp 145) 154 168 _ 32 rfl Try.underlying154 infoApp rfl (by decide) (by decide) (v := v 2) rfl (((HF2.out.below (show Below w2.heap.size w2 _ from by have h0 := Below.refl w2.heap.size w2; exact (by repeat (first | with_reducible assumption | with_reducible refine Below.drew ?_ | with_reducible refine below_drewN' ?_ _ | with_reducible refine Below.alloc ?_ ?_ _ | with_reducible refine Below.setCell ?_ ?_ _ | with_reducible exact Nat.le_refl _ | omega | focus (simp; done) | focus (simp; omega))))).row (i := 2) (by omega))) rfl (cs := [.int .u8 23, .int .u16 (y1 * 256 + y2), .int .u16 (N : Int), .slice A5 N (c - 5)]) (y := ([2, 23, y1 * 256 + y2, (N : Int)], rest2.take N)) ?hcells ?hrep (by have := HXL.out 2; omega) (by first | omega | (simp; omega)) (fun q' c2 w5 hr5 hg5 ha5 => hK _ _ ?_)
            case hcells =>
              intro j u hu
              rcases j with _ | _ | _ | _ | j
              · simp at hu; subst hu; go_simp
              · simp at hu; subst hu; go_simp
              · simp at hu; subst hu; go_simp
              · simp at hu; subst hu; go_simp
              · simp at hu
            case hrep => exact ⟨_, _, _, _, rfl, rfl, ((HSB.out.keeps HKS.out).keeps (by repeat (first | with_reducible assumption | with_reducible exact Keeps.refl _ _ | with_reducible refine Keeps.drew ?_ | with_reducible refine Keeps.drewN ?_ _ | with_reducible refine Keeps.alloc ?_ _ | with_reducible refine Keeps.setCell ?_ ?_ _ | omega | focus (simp; done) | focus (simp; omega)))).imp (fun b hl hb => by have hb2 : b < B := hb; exact ⟨⟨⟨hb2, fun j hj e => by have := (HOW.out j b hj e).1; omega⟩, hl⟩, fun e => by have := (HOW.out 2 b (by omega) e.symm).1; omega⟩), by omega, by omega, by rw [List.length_take]; omega⟩
            have hk5 := grown_keeps (N := base) hg5 (fun k hk => (HF2.out.own (i := 2) (by omega) hk).1)
            have hX5 : w5.cell? ⟨X, 4, none⟩ = some (v 2) := hk5.cell lXb (by go_simp)
            have hXf5 : w5.frozen? ⟨X, 4, none⟩ = false := hk5.frozen lXb (by first | omega | (simp; omega)) (by go_simp)
            have lX5 : X < w5.heap.size := World.block_lt_of_cell? _ _ hX5
            have hkX : Keeps (fun b => b = X ∨ b = W1.heap.size) w2 w5 := ⟨by have := hg5.size; simp at this; omega, fun b hb hl => (hg5.block b (by simp; omega) (fun he => by have := HOW.out 2 b (by omega) he.symm; rcases hb with hb | hb <;> omega)).trans (Below.heap_alloc _ _ _ hl)⟩
            first | refine step_and (SameOn.keeps (SameOn.refl (fun b hb => by rcases hb with hb | hb <;> omega)) hkX (fun b hb => hb)) (fun _ => ?_) | refine ⟨SameOn.keeps (SameOn.refl (fun b hb => by rcases hb with hb | hb <;> omega)) hkX (fun b hb => hb), ?_⟩
            have H6 := Lib.hid ((HF2.out.below (show Below w2.heap.size w2 _ from by have h0 := Below.refl w2.heap.size w2; exact (by repeat (first | with_reducible assumption | with_reducible refine Below.drew ?_ | with_reducible refine below_drewN' ?_ _ | with_reducible refine Below.alloc ?_ ?_ _ | with_reducible refine Below.setCell ?_ ?_ _ | with_reducible exact Nat.le_refl _ | omega | focus (simp; done) | focus (simp; omega))))).step (fun b hb => by omega) (i := 2) (by omega) hr5 hg5 ha5)
            have HB6 := Lib.hid (show Below X w w5 from (((HB1.out.trans (HB2.out.mono (by omega)))).trans (show Below X w2 _ from by have h0 := Below.refl X w2; exact (by repeat (first | with_reducible assumption | with_reducible refine Below.drew ?_ | with_reducible refine below_drewN' ?_ _ | with_reducible refine Below.alloc ?_ ?_ _ | with_reducible refine Below.setCell ?_ ?_ _ | with_reducible exact Nat.le_refl _ | omega | focus (simp; done) | focus (simp; omega))))).grown hg5 (by simp; omega) (fun k hk => by have := (HOW.out 2 k (by omega) hk).1; omega))
            have x15 : w5.cell? ⟨X, 1, none⟩ = some (.slice none 0 0) := hk5.cell lXb (by have := (HB2.out.cell (p := ⟨X, 1, none⟩) lX1).trans x1'; go_simp)
            have x05 : w5.cell? ⟨X, 0, none⟩ = some u0' := hk5.cell lXb (by have := (HB2.out.cell (p := ⟨X, 0, none⟩) lX1).trans x0'; go_simp)
            clear hr5 hg5 ha5 hkX
            repeat
              first | refine lexO_pass rfl ?_ | (refine lexO_take2 ?_ rfl (by kernel_rfl) (by with_reducible assumption) (fun w' hS K Q' hK => ?_) ?_; rotate_left; focus (have hS2 := hS.2; clear hS; go_wp2_with fail; exact hK))
            refine lexO_do rfl (fun K hK => ?_) lexO_stop
            go_wp2_with fail
            first | refine step_last (by decide) (lexO_done ?_) | refine lexO_done ?_
            go_upto_region 40 with fail
            obtain ⟨W6, hW6⟩ : ∃ W6, W6 = w5.setCell ⟨X, 4, none⟩ (.slice (some ⟨q', 0, none⟩) ((xs 2).length + 1) c2) := ⟨_, rfl⟩
            have H7 := Lib.hid (show Four eT tT 2 W6 X base (· < B) (upd v 2 (.slice (some ⟨q', 0, none⟩) ((xs 2).length + 1) c2)) (upd xs 2 (xs 2 ++ [([2, 23, y1 * 256 + y2, (N : Int)], rest2.take N)])) from by rw [hW6]; exact H6.out)
            have HB7 := Lib.hid (show Below X w W6 from by rw [hW6]; exact HB6.out.setCell (Nat.le_refl _) _)
            have x17 : W6.cell? ⟨X, 1, none⟩ = some (.slice none 0 0) := by rw [hW6]; go_simp
            have x07 : W6.cell? ⟨X, 0, none⟩ = some u0' := by rw [hW6]; go_simp
            refine wp_gen (fun W => W = W6) ?G (fun W hWW => ?_)
            case G => rw [hW6]
            subst hWW
            clear hW6 x15 x05 hX5 hXf5
            have hrec := dTls_more (a := 23) (b := y1) (c := y2) (d := y3) (e := y4) (rest := rest2) hNN (by omega) hfit (tRec23 (N := N) (by rw [List.length_take]; omega))
            have HREC := Lib.hid hrec
            clear hrec
            by_cases hend : n = (5 + N)
            · have hendI : ((n : Int) == (5 + (N : Int))) = true := by simp; omega
              go_wp2_with fail
              refine bodyPost_ret (v := .nilIface) (by simp only [results, Try.results58]; go_simp) rfl ?_
              have hD := HRES.out
              rw [HREC.out, show rest2.drop N = [] from List.drop_eq_nil_of_le (by have := HRL.out; omega), dTls_nil] at hD
              exact ⟨HB7.out, .inr ⟨_, (Option.some.inj hD).symm, rfl, x17, _, H7.out.ext (fun i => by have h := tell xs 2 i (part := ([2, 23, y1 * 256 + y2, (N : Int)], rest2.take N)) (rs := []); rw [tOf_nil, List.append_nil] at h; exact h)⟩⟩
            · have hendI : ((n : Int) == (5 + (N : Int))) = false := by simp; omega
              have hcT : ¬ c = (5 + N) := by have := HRL.out; omega
              have hcI : ((5 + (N : Int)) : Int) ≤ (c : Int) := by have := HRL.out; omega
              have hnI : ((5 + (N : Int)) : Int) ≤ (n : Int) := by have := HRL.out; omega
              obtain ⟨r', hr', hrr⟩ : ∃ r', dTls (rest2.drop N) = some r' ∧ r = r'.map ((2, ([2, 23, y1 * 256 + y2, (N : Int)], rest2.take N)) :: ·) := by
                have hD := HRES.out
                rw [HREC.out] at hD
                cases hq : dTls (rest2.drop N) with
                | none => rw [hq] at hD; cases hD
                | some q => rw [hq] at hD; exact ⟨q, rfl, (Option.some.inj hD).symm⟩
              have HRR := Lib.hid hrr
              have HQ := Lib.hid hr'
              have HKW := Lib.hid (show Keeps (· < B) w W from ⟨HB7.out.size, fun b hb _ => HB7.out.block b (by have : b < B := hb; omega)⟩)
              have HRW := Lib.hid (show RowAt W (· < B) (some ⟨g, o + (5 + N), none⟩) ((rest2.drop N).map (.int .u8)) from by
                have h := (HR.out.keeps HKW.out).drop (N + 5)
                rw [show o + (N + 5) = o + (5 + N) by omega] at h
                rw [List.map_drop]
                exact h)
              clear hrr hr'
              go_wp2_with (go_at_call 58; refine (HIH.out X base B _ _ g _ k (rest2.drop N) W _ _ _ _ _ (by omega) (by rw [List.length_drop]; have := HRL.out; omega) (by have := HRL.out; omega) (by omega) (by omega) (by omega) (fun z hz => HBB.out z (by have := List.mem_of_mem_drop hz; simp [this])) HRW.out hBX H7.out x07 x17 (fun i => lenn HXL.out 2 i (by omega) (by omega)) HQ.out).mono ?_; rintro e w9 ⟨hB9, hD9⟩; obtain ⟨ev, rfl⟩ := hD9.ret)
              refine bodyPost_ret (v := ev) (by simp only [results, Try.results58]; go_simp) rfl ?_
              rcases hD9 with ⟨h1, b, hb⟩ | ⟨rs, h1, hb, hx, v', hF'⟩
              · exact ⟨HB7.out.trans hB9, .inl ⟨by rw [HRR.out, h1]; rfl, b, hb⟩⟩
              · exact ⟨HB7.out.trans hB9, .inr ⟨_, by rw [HRR.out, h1]; rfl, hb, hx, v', hF'.ext (fun i => tell xs 2 i)⟩⟩
      · have hl : (n : Int) < 5 + (N : Int) := by have := HRL.out; omega
        go_wp2_with (first | (go_at_call 31; refine new_c.mono ?_; rintro e w' ⟨rfl, rfl⟩) | (go_at_call 111; refine trunc_c.mono ?_; rintro e w' ⟨rfl, rfl⟩))
        refine bodyPost_ret (v := .iface 178 (.pointer (some ⟨W1.heap.size, 0, none⟩))) (by simp only [results, Try.results58]; go_simp) rfl ?_
        have hD := HRES.out
        rw [dTls_long hNN (by omega)] at hD
        have h0 := HB1.out
        exact ⟨(by repeat (first | with_reducible assumption | with_reducible refine Below.drew ?_ | with_reducible refine below_drewN' ?_ _ | with_reducible refine Below.alloc ?_ ?_ _ | with_reducible refine Below.setCell ?_ ?_ _ | with_reducible exact Nat.le_refl _ | omega | focus (simp; done) | focus (simp; omega))), .inl ⟨(Option.some.inj hD).symm, _, rfl⟩⟩
end Go.Proofs.Ytehdhnjimmplhaa
