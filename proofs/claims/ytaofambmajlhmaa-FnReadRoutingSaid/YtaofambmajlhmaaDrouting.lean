/-
  The decoder of routing6.
-/
import Derived.Test.YtaofambmajlhmaaRead
import Derived.Test.YtaofambmajlhmaaFill
namespace Go.Proofs.Ytaofambmajlhmaa
open Go Go.RowKit

set_option maxRecDepth 100000 in
set_option maxHeartbeats 1000000 in
theorem base_c {g o n c m : Nat} {x0 x1 : Int} {kt : TypeId} {kv : Value} {Am : Option Addr} {w : World} (hnm : 8 ≤ n) (hc : n ≤ c) (hm : c ≤ 9223372036854775807) (h1 : 0 ≤ x1 ∧ x1 ≤ 255) (hm1 : x1 * 8 + 8 = (m : Int)) (hmn : m ≤ n)
    (hAm : (if c = m then some (⟨g, o, none⟩ : Addr) else some ⟨g, o + m, none⟩) = Am) (c0 : w.cell? ⟨g, o, none⟩ = some (.int .u8 x0)) (c1 : w.cell? ⟨g, o + 1, none⟩ = some (.int .u8 x1)) :
    Calls Try.prog 65 #[.slice (some ⟨g, o, none⟩) n c, .iface kt kv] w fun e w' =>
      e = .returned (.tuple #[.agg #[.slice (some ⟨g, o, none⟩) m c, .slice Am (n - m) (c - m), .int .u8 x0, .int .u8 x1, .int .i64 (m : Int)], .nilIface]) ∧
      w.alloc (.cells #[.slice (some ⟨g, o, none⟩) m c, .slice Am (n - m) (c - m), .int .u8 x0, .int .u8 x1, .int .i64 (m : Int)] 75) = w' := by
  have hmle : ¬ (n : Int) < (m : Int) := by omega
  have hmc : (m : Int) ≤ (c : Int) := by omega
  have lg : g < w.heap.size := World.block_lt_of_cell? _ _ c0
  have lg1 : g < w.heap.size + 1 := by omega
  go_enter Try.func65, Try.ntmps65
  go_wp2_with fail
  exact bodyPost_ret (v := .tuple #[.agg #[.slice (some ⟨g, o, none⟩) m c, .slice Am (n - m) (c - m), .int .u8 x0, .int .u8 x1, .int .i64 (m : Int)], .nilIface]) (by simp only [results, Try.results65]; go_simp) rfl ⟨rfl, rfl⟩

/-- An IPv6Routing at X. -/
def IsRouting (w : World) (X : Nat) (pl : Value) (l : Lay) : Prop :=
  ∃ (a h t s m : Int) (rv : Value) (res : List Int) (iv : Value) (ips : List (List Int)) (pay : List Int), l = ⟨[a, h, m, t, s], [res], ips.map (fun d => (([] : List Int), d)), pay⟩ ∧ w.cell? ⟨X, 1, none⟩ = some pl ∧ SB w (fun _ => True) pl pay ∧
    w.cell? ⟨X, 2, none⟩ = some (.int .u8 a) ∧ w.cell? ⟨X, 3, none⟩ = some (.int .u8 h) ∧ w.cell? ⟨X, 4, none⟩ = some (.int .i64 m) ∧ w.cell? ⟨X, 5, none⟩ = some (.int .u8 t) ∧ w.cell? ⟨X, 6, none⟩ = some (.int .u8 s) ∧
    w.cell? ⟨X, 7, none⟩ = some rv ∧ SB w (fun _ => True) rv res ∧ w.cell? ⟨X, 8, none⟩ = some iv ∧ Rows eB w 0 (fun _ => True) 79 iv ips ∧
    ((0 ≤ a ∧ a ≤ 255) ∧ (0 ≤ h ∧ h ≤ 255) ∧ (0 ≤ t ∧ t ≤ 255) ∧ (0 ≤ s ∧ s ≤ 255)) ∧ (0 ≤ m ∧ m ≤ 100000) ∧ res.length ≤ 1000 ∧ ips.length ≤ 1000 ∧ ∀ d ∈ ips, d.length ≤ 1000
theorem isRouting_below {w w' : World} {X : Nat} {pl : Value} {l : Lay} (k : Below w.heap.size w w') (hI : IsRouting w X pl l) : IsRouting w' X pl l := by
  obtain ⟨a, h, t, s, m, rv, res, iv, ips, pay, rfl, c1, hp, c2, c3, c4, c5, c6, c7, hr, c8, hi, b1, b2, b3, b4, b5⟩ := hI
  have hc : ∀ j u, w.cell? ⟨X, j, none⟩ = some u → w'.cell? ⟨X, j, none⟩ = some u := fun j u hu => (k.cell (p := ⟨X, j, none⟩) (World.block_lt_of_cell? _ _ hu)).trans hu
  exact ⟨a, h, t, s, m, rv, res, iv, ips, pay, rfl, hc _ _ c1, hp.keeps (Keeps.of_below k), hc _ _ c2, hc _ _ c3, hc _ _ c4, hc _ _ c5, hc _ _ c6, hc _ _ c7, hr.keeps (Keeps.of_below k), hc _ _ c8, hi.keeps (Keeps.of_below k), b1, b2, b3, b4, b5⟩
theorem isRouting_pl {w : World} {X : Nat} {pl : Value} {l : Lay} (hI : IsRouting w X pl l) : w.cell? ⟨X, 1, none⟩ = some pl := by
  obtain ⟨a, h, t, s, m, rv, res, iv, ips, pay, rfl, c1, _⟩ := hI
  exact c1

set_option maxRecDepth 100000 in
set_option maxHeartbeats 1000000 in
theorem decode_routing_yes {g o n c q m : Nat} (x0 x1 x2 x3 x4 x5 x6 x7 : Int) {rest : List Int} {w : World} (hn : n = rest.length + 8) (hc : n ≤ c) (hm : c ≤ 9223372036854775807) (hq1 : x1 = 2 * (q : Int)) (hqm : m = 16 * q + 8) (hmn : m ≤ n) (hx2 : x2 = 0)
    (hb : ∀ z ∈ [x0, x1, x2, x3, x4, x5, x6, x7], 0 ≤ z ∧ z ≤ 255) (hr : RowAt w (fun _ => True) (some ⟨g, o, none⟩) ((x0 :: x1 :: x2 :: x3 :: x4 :: x5 :: x6 :: x7 :: rest).map (.int .u8))) :
    Calls Try.prog 42 #[.string ⟨#[114, 111, 117, 116, 105, 110, 103, 54]⟩, .slice (some ⟨g, o, none⟩) n c] w fun e w' =>
      ∃ X pl, e = .returned (.tuple #[.iface 73 (.pointer (some ⟨X, 0, none⟩)), .nilIface]) ∧ IsRouting w' X pl ⟨[x0, x1, (m : Int), x2, x3], [[x4, x5, x6, x7]], ((List.range q).map fun k => (([] : List Int), (((x0 :: x1 :: x2 :: x3 :: x4 :: x5 :: x6 :: x7 :: rest)).drop (8 + 16 * k)).take 16)), (x0 :: x1 :: x2 :: x3 :: x4 :: x5 :: x6 :: x7 :: rest).drop m⟩ ∧ Below w.heap.size w w' := by
  have hnm : 8 ≤ n := by omega
  have b4 : (4 : Int) ≤ (c : Int) := by omega
  have b8 : (8 : Int) ≤ (c : Int) := by omega
  have e4 : ¬ (c = 4) := by omega
  have hm1 : x1 * 8 + 8 = (m : Int) := by omega
  have hmle : ¬ (n : Int) < (m : Int) := by omega
  have hmc : (m : Int) ≤ (c : Int) := by omega
  have hxb : (x2 == 0) = true := by simp [hx2]
  have hyb : (((m : Int) - 8) % 16 != 0) = false := by simp; omega
  have HN := Lib.hid hn
  have HQ1 := Lib.hid hq1
  have HX2 := Lib.hid hx2
  have HQM := Lib.hid hqm
  clear hn hq1 hx2 hqm
  have HR := Lib.hid hr
  obtain ⟨Am, hAm⟩ : ∃ A, (if c = m then some (⟨g, o, none⟩ : Addr) else some ⟨g, o + m, none⟩) = A := ⟨_, rfl⟩
  have hP := SB.tail (n := n) hr (by simpa using HN.out) hmn hc hm hAm
  have HD := Lib.hid (show SB w (fun _ => True) (.slice (some ⟨g, o + 4, none⟩) 4 (c - 4)) [x4, x5, x6, x7] from SB.from (lo := 4) (hi := 8) hr (by omega) (by simp) (by have := HN.out; simp; omega) hm (by rw [if_neg (by omega)]))
  obtain ⟨hg, hcell⟩ := rowCells hr (by simp)
  have c0 := hcell 0 _ (by simp; rfl)
  have c1 := hcell 1 _ (by simp; rfl)
  have c2 := hcell 2 _ (by simp; rfl)
  have c3 := hcell 3 _ (by simp; rfl)
  rw [Nat.add_zero] at c0
  have h0 := hb x0 (by simp)
  have h1 := hb x1 (by simp)
  have h2 := hb x2 (by simp)
  have h3 := hb x3 (by simp)
  have HP := Lib.hid hP
  clear hP
  clear hr hcell hb
  have m2 := m_add
  obtain ⟨D8, hD8⟩ : ∃ A, (if c = 8 then some (⟨g, o, none⟩ : Addr) else some ⟨g, o + 8, none⟩) = A := ⟨_, rfl⟩
  have lg1 : g < w.heap.size + 1 := by omega
  have lg2 : g < w.heap.size + 1 + 1 := by omega
  have lg3 : g < w.heap.size + 1 + 1 + 1 := by omega
  have lg4 : g < w.heap.size + 1 + 1 + 1 + 1 := by omega
  go_enter Try.func42, Try.ntmps42
  go_wp2_with (first | (go_at_call 46; refine new_c.mono ?_; rintro e w' ⟨rfl, rfl⟩) | (go_at_call 48; go_in))
  refine (base_c (x0 := x0) (x1 := x1) hnm hc hm h1 hm1 hmn hAm (by go_simp) (by go_simp)).mono ?_
  rintro e w' ⟨rfl, rfl⟩
  go_wp2_with fail
  refine wp_region_same [] (.q 0 (.q 1 (.q 2 (.q 3 (.q 4 (.q 5 (.q 6 (.q 7 (.q 8 (.q 9 (.l 10 (.q 11 .done) .stop))))))))))) (by kernel_rfl) (by kernel_rfl) (fun _ _ d _ _ h => by cases d <;> exact h) (by simp only [Ord.fill, nthOp]; rfl) ?_; intro hSm
  repeat
    first | refine lexO_pass rfl ?_ | (refine lexO_take2 ?_ rfl (by kernel_rfl) (by with_reducible assumption) (fun w' hS K Q' hK => ?_) ?_; rotate_left; focus (have hS2 := hS.2; clear hS; go_wp2_with fail; exact hK))
  refine lexO_do rfl (fun K hK => ?_) lexO_stop
  go_wp2_with fail
  refine step_and (by repeat (first | with_reducible assumption | with_reducible exact SameAt.refl _ | with_reducible refine SameAt.drew ?_ | with_reducible refine SameAt.alloc ?_ _ | (refine SameAt.below ?_ (by with_reducible assumption)))) (fun _ => ?_)
  repeat
    first | refine lexO_pass rfl ?_ | (refine lexO_take2 ?_ rfl (by kernel_rfl) (by with_reducible assumption) (fun w' hS K Q' hK => ?_) ?_; rotate_left; focus (have hS2 := hS.2; clear hS; go_wp2_with fail; exact hK))
  refine lexO_done ?_
  go_wp2_with fail
  refine wp_gen (fun W => (W.cell? ⟨w.heap.size + 1 + 1 + 1 + 1, 0, none⟩ = some (.slice (some ⟨g, o, none⟩) m c) ∧ W.cell? ⟨w.heap.size + 1 + 1 + 1 + 1, 1, none⟩ = some (.slice Am (n - m) (c - m)) ∧ W.cell? ⟨w.heap.size + 1 + 1 + 1 + 1, 2, none⟩ = some (.int .u8 x0) ∧ W.cell? ⟨w.heap.size + 1 + 1 + 1 + 1, 3, none⟩ = some (.int .u8 x1) ∧ W.cell? ⟨w.heap.size + 1 + 1 + 1 + 1, 4, none⟩ = some (.int .i64 (m : Int)) ∧ W.cell? ⟨w.heap.size + 1 + 1 + 1 + 1, 5, none⟩ = some (.int .u8 x2) ∧ W.cell? ⟨w.heap.size + 1 + 1 + 1 + 1, 6, none⟩ = some (.int .u8 x3) ∧ W.cell? ⟨w.heap.size + 1 + 1 + 1 + 1, 7, none⟩ = some (.slice (some ⟨g, o + 4, none⟩) 4 (c - 4)) ∧ W.cell? ⟨w.heap.size + 1 + 1 + 1 + 1, 8, none⟩ = some (.slice none 0 0)) ∧ (∀ j, W.frozen? ⟨w.heap.size + 1 + 1 + 1 + 1, j, none⟩ = false) ∧ w.heap.size + 1 + 1 + 1 + 1 < W.heap.size ∧ W.cell? ⟨w.heap.size, 0, none⟩ = some .nilIface ∧ W.frozen? ⟨w.heap.size, 0, none⟩ = false ∧ Keeps (fun b => b < w.heap.size) w W ∧ Below w.heap.size w W) ?F (fun W hW => ?_)
  case F =>
    have h0 := Below.refl w.heap.size w
    have q1 := Keeps.refl (fun b => b < w.heap.size) w
    exact ⟨⟨by go_simp, by go_simp, by go_simp, by go_simp, by go_simp, by go_simp, by go_simp, by go_simp, by go_simp⟩, fun j => by go_simp, by simp, by go_simp, by go_simp, (by repeat (first | with_reducible assumption | with_reducible exact Keeps.refl _ _ | with_reducible refine Keeps.drew ?_ | with_reducible refine Keeps.alloc ?_ _ | with_reducible refine Keeps.setCell ?_ ?_ _ | omega | focus (simp; done) | focus (simp; omega))), (by repeat (first | with_reducible assumption | with_reducible refine Below.drew ?_ | with_reducible refine Below.alloc ?_ ?_ _ | with_reducible refine Below.setCell ?_ ?_ _ | with_reducible exact Nat.le_refl _ | omega | focus (simp; done) | focus (simp; omega)))⟩
  obtain ⟨⟨lc0, lc1, lc2, lc3, lc4, lc5, lc6, lc7, lc8⟩, lf, lL, kc, kf, kW, bW⟩ := hW
  obtain ⟨X, hX⟩ : ∃ X, X = w.heap.size + 1 + 1 + 1 + 1 := ⟨_, rfl⟩
  rw [← hX] at lc0 lc1 lc2 lc3 lc4 lc5 lc6 lc7 lc8 lf lL ⊢
  have lX : w.heap.size < X := by omega
  clear hX
  have hF0 : GFills eB 79 8 W W X W.heap.size (fun b => b ≠ X ∧ b ≠ w.heap.size) (.slice none 0 0) ((List.range 0).map (fun k => ((x0 :: x1 :: x2 :: x3 :: x4 :: x5 :: x6 :: x7 :: rest).drop (8 + 16 * k)).take 16)) := GFills.start lL (Nat.le_refl _) lc8 lf
  have HK := Lib.hid (And.intro kW bW)
  have HF0 := Lib.hid hF0
  clear kW bW lf hF0
  have HD8 := Lib.hid hD8
  clear hD8
  go_loopw [8] (fun s wr => ∃ k D l e, k ≤ q ∧ s = .slice D l e ∧ l = 16 * (q - k) ∧ e = c - (8 + 16 * k) ∧ (k < q → D = some ⟨g, o + (8 + 16 * k), none⟩) ∧ ∃ v, GFills eB 79 8 W wr X W.heap.size (fun b => b ≠ X ∧ b ≠ w.heap.size) v ((List.range k).map (fun k => ((x0 :: x1 :: x2 :: x3 :: x4 :: x5 :: x6 :: x7 :: rest).drop (8 + 16 * k)).take 16))) (fun s _ => match s with | .slice _ l _ => l | _ => 0)
  case atStart => exact ⟨0, D8, m - 8, c - 8, Nat.zero_le _, rfl, by have := HQM.out; omega, by omega, fun h => by rw [← HD8.out, if_neg (by have := HQM.out; omega)], _, HF0.out⟩
  case round =>
    obtain ⟨k, D, l, e, hk, rfl, hl, he, hD, v, hF⟩ := hrel
    have HF := Lib.hid hF
    have lXr : X < wr.heap.size := Nat.lt_of_lt_of_le hF.lt hF.le
    have lwr : w.heap.size < wr.heap.size := by omega
    have leW := hF.le
    have ef := hF.froz 8
    have hown := hF.rows.own
    obtain ⟨p, c', hv⟩ := hF.rows.form
    rw [show ((List.range k).map (fun k => ((x0 :: x1 :: x2 :: x3 :: x4 :: x5 :: x6 :: x7 :: rest).drop (8 + 16 * k)).take 16)).length = k by simp] at hv
    subst hv
    have e8 := hF.parts
    have kc' := hF.keep.cell (b := w.heap.size) (by constructor <;> omega) kc
    have kf' := hF.keep.frozen (b := w.heap.size) (by constructor <;> omega) (by omega) kf
    have HO := Lib.hid hown
    have HKG := Lib.hid (HK.out.1.trans (hF.keep.imp (fun b hb => ⟨by omega, by omega⟩ : ∀ b, b < w.heap.size → b < W.heap.size ∧ b ≠ X)))
    have HL := Lib.hid hl
    have HE := Lib.hid he
    clear hF hown he
    by_cases hlt : k < q
    · have hl1 : (16 : Int) ≤ (l : Int) := by have := HL.out; omega
      have he1 : (16 : Int) ≤ (e : Int) := by have := HE.out; have := HQM.out; omega
      obtain ⟨O, hO⟩ : ∃ O, O = o + (8 + 16 * k) := ⟨_, rfl⟩
      have hD' := hD hlt
      rw [← hO] at hD'
      obtain rfl := hD'
      have hS : SB w (fun _ => True) (.slice (some ⟨g, O, none⟩) 16 e) ((fun k => ((x0 :: x1 :: x2 :: x3 :: x4 :: x5 :: x6 :: x7 :: rest).drop (8 + 16 * k)).take 16) k) := by
        have := SB.from (lo := 8 + 16 * k) (hi := 8 + 16 * k + 16) (A := some ⟨g, O, none⟩) HR.out (by omega) (by have := HQM.out; have := HN.out; simp at *; omega) (by have := HN.out; simp at *; omega) hm (by rw [if_neg (by have := HE.out; omega), hO])
        rwa [show 8 + 16 * k + 16 - (8 + 16 * k) = 16 by omega, ← HE.out] at this
      have HS := Lib.hid hS
      obtain ⟨A', hA'⟩ : ∃ A, (if e = 16 then some (⟨g, O, none⟩ : Addr) else some ⟨g, O + 16, none⟩) = A := ⟨_, rfl⟩
      have HOO := Lib.hid hO
      clear hS hD hl hO
      go_wp2_with fail
      refine wp_region_to (W.heap.size) (by first | omega | exact Nat.le_refl _ | (simp; omega)) [11] (.q 0 (.q 1 (.q 2 (.q 3 (.q 4 (.q 5 (.q 6 (.l 7 (.l 8 (.q 9 (.q 10 (.l 11 .done .stop))) .stop) .stop)))))))) (by kernel_rfl) (by kernel_rfl) (fun _ _ d _ _ h => by cases d <;> exact h) (by simp only [Ord.fill, nthOp]; rfl) ?_; intro hSm
      repeat
        first | refine lexO_pass rfl ?_ | (refine lexO_take2 ?_ rfl (by kernel_rfl) (by with_reducible assumption) (fun w' hS K Q' hK => ?_) ?_; rotate_left; focus (have hS2 := hS.2; clear hS; go_wp2_with fail; exact hK))
      refine lexO_do rfl (fun K hK => ?_) lexO_stop
      go_wp2_with fail
      refine step_and (by repeat (first | with_reducible assumption | (with_reducible refine SameTo.refl ?_) | with_reducible refine SameTo.drew ?_ | with_reducible refine SameTo.alloc ?_ _ | (with_reducible refine SameTo.setCell ?_ ?_ _) | (refine SameTo.below ?_ (by with_reducible assumption)) | omega | exact Nat.le_refl _ | focus (simp; done) | focus (simp; omega))) (fun _ => ?_)
      repeat
        first | refine lexO_pass rfl ?_ | (refine lexO_take2 ?_ rfl (by kernel_rfl) (by with_reducible assumption) (fun w' hS K Q' hK => ?_) ?_; rotate_left; focus (have hS2 := hS.2; clear hS; go_wp2_with fail; exact hK))
      refine lexO_do rfl (fun K hK => ?_) lexO_stop
      refine wp_append_N (E := eB) (.tmp 61) (.tmp 64) 76 79 _ 24 rfl Try.underlying76 infoIP rfl (by decide) (by decide) (HF.out.rows.keeps (by repeat (first | with_reducible assumption | with_reducible exact Keeps.refl _ _ | with_reducible refine Keeps.drew ?_ | with_reducible refine Keeps.alloc ?_ _ | with_reducible refine Keeps.setCell ?_ ?_ _ | omega | focus (simp; done) | focus (simp; omega)))) wr.heap.size (fun k hk => (HO.out k hk).2) rfl rfl (cs := [.slice (some ⟨g, O, none⟩) 16 e]) (y := (fun k => ((x0 :: x1 :: x2 :: x3 :: x4 :: x5 :: x6 :: x7 :: rest).drop (8 + 16 * k)).take 16) k) ?hcells ?hrep (by have := HQ1.out; simp; omega) (by first | omega | (simp; omega)) (fun q' c2 w5 hr5 hs5 hk5 hb5 => hK _ _ ?_)
      case hcells =>
        intro j u hu
        rcases j with _ | j
        · simp at hu; subst hu; go_simp
        · simp at hu
      case hrep => exact ⟨_, rfl, ((HS.out.imp (fun b hb _ => hb : ∀ b, b < w.heap.size → True → b < w.heap.size)).keeps (HKG.out.trans (by repeat (first | with_reducible assumption | with_reducible exact Keeps.refl _ _ | with_reducible refine Keeps.drew ?_ | with_reducible refine Keeps.alloc ?_ _ | with_reducible refine Keeps.setCell ?_ ?_ _ | omega | focus (simp; done) | focus (simp; omega))))).imp (fun b _ hb => ⟨⟨by omega, by omega⟩, .inl (by omega)⟩)⟩
      refine step_and (SameTo.keeps (by repeat (first | with_reducible assumption | (with_reducible refine SameTo.refl ?_) | with_reducible refine SameTo.drew ?_ | with_reducible refine SameTo.alloc ?_ _ | (with_reducible refine SameTo.setCell ?_ ?_ _) | (refine SameTo.below ?_ (by with_reducible assumption)) | omega | exact Nat.le_refl _ | focus (simp; done) | focus (simp; omega))) hk5) (fun _ => ?_)
      rw [show ((List.range k).map (fun k => ((x0 :: x1 :: x2 :: x3 :: x4 :: x5 :: x6 :: x7 :: rest).drop (8 + 16 * k)).take 16)).length = k by simp] at hr5
      have hL5 : w5.cell? ⟨X, 8, none⟩ = some (.slice p k c') := hk5.cell lL (by go_simp)
      have hf5 : w5.frozen? ⟨X, 8, none⟩ = false := hk5.frozen lL (by first | omega | (simp; omega)) (by go_simp)
      have l5 : X < w5.heap.size := World.block_lt_of_cell? _ _ hL5
      have H5 := Lib.hid (HF.out.step (w5 := w5) (fun b hb => hb.1) (show Below wr.heap.size wr _ from (by have h0 := Below.refl wr.heap.size wr; exact (by repeat (first | with_reducible assumption | with_reducible refine Below.drew ?_ | with_reducible refine Below.alloc ?_ ?_ _ | with_reducible refine Below.setCell ?_ ?_ _ | with_reducible exact Nat.le_refl _ | omega | focus (simp; done) | focus (simp; omega))))) hr5 hs5 hk5 hb5)
      clear hr5 hs5 hk5 hb5
      repeat
        first | refine lexO_pass rfl ?_ | (refine lexO_take2 ?_ rfl (by kernel_rfl) (by with_reducible assumption) (fun w' hS K Q' hK => ?_) ?_; rotate_left; focus (have hS2 := hS.2; clear hS; go_wp2_with fail; exact hK))
      refine lexO_do rfl (fun K hK => ?_) lexO_stop
      go_wp2_with fail
      first | refine step_last (by decide) (lexO_done ?_) | refine lexO_done ?_
      go_wp2_with fail
      go_roundw
      case rel => exact ⟨k + 1, A', l - 16, e - 16, hlt, rfl, by have := HL.out; omega, by have := HE.out; omega, fun h => by rw [← hA', if_neg (by have := HE.out; have := HQM.out; omega), HOO.out]; (congr 2 <;> omega), _, by have := H5.out; rwa [range_snoc] at this⟩
      case measure => simp; omega
    · obtain rfl : k = q := by omega
      have hl1 : ¬ (16 : Int) ≤ (l : Int) := by have := HL.out; omega
      clear hD hl
      go_wp2_with (go_at_call 125; refine (add_c (x := .nilIface) (by go_simp) (by go_simp)).mono ?_; rintro e w' ⟨rfl, rfl⟩)
      have hF := HF.out
      refine bodyPost_ret (v := .tuple #[.iface 73 (.pointer (some ⟨X, 0, none⟩)), .nilIface]) (by simp only [results, Try.results42]; go_simp) rfl ?_
      have hk6 : Keeps (fun b => b ≠ w.heap.size) wr (wr.setCell ⟨w.heap.size, 0, none⟩ (.iface 73 (.pointer (some ⟨X, 0, none⟩)))) := (Keeps.refl _ _).setCell (fun h => h rfl) _
      have hc : ∀ j u, j ≠ 8 → W.cell? ⟨X, j, none⟩ = some u → (wr.setCell ⟨w.heap.size, 0, none⟩ (.iface 73 (.pointer (some ⟨X, 0, none⟩)))).cell? ⟨X, j, none⟩ = some u := fun j u hj hu => hk6.cell (b := X) (by omega) (hF.other j u hj hu)
      have hd : ∀ v bs, SB w (fun _ => True) v bs → SB (wr.setCell ⟨w.heap.size, 0, none⟩ (.iface 73 (.pointer (some ⟨X, 0, none⟩)))) (fun _ => True) v bs := fun v bs hv => (((hv.imp (fun b hb _ => hb : ∀ b, b < w.heap.size → True → b < w.heap.size)).keeps (HKG.out.trans (hk6.imp (fun b hb => by omega)))).imp (fun _ _ _ => trivial))
      have hbW : Below w.heap.size w wr := hF.below _ _ (by omega) HK.out.2
      refine ⟨X, _, rfl, ⟨x0, x1, x2, x3, (m : Int), _, _, _, (List.range k).map (fun k => ((x0 :: x1 :: x2 :: x3 :: x4 :: x5 :: x6 :: x7 :: rest).drop (8 + 16 * k)).take 16), _, by simp [List.map_map, Function.comp_def], hc 1 _ (by decide) lc1, hd _ _ HP.out, hc 2 _ (by decide) lc2, hc 3 _ (by decide) lc3, hc 4 _ (by decide) lc4, hc 5 _ (by decide) lc5, hc 6 _ (by decide) lc6, hc 7 _ (by decide) lc7, hd _ _ HD.out, hk6.cell (b := X) (by omega) e8,
        ((hF.rows.keeps ((hk6.imp (fun b hb => by rcases hb with h | h <;> omega)))).imp (Nat.zero_le _) (fun _ _ _ => trivial)), ⟨h0, h1, h2, h3⟩, by omega, by simp, by have := HQ1.out; simp; omega, fun d hd => ?_⟩, hbW.setCell (Nat.le_refl _) _⟩
      obtain ⟨j, -, rfl⟩ := List.mem_map.1 hd
      simp
      omega
end Go.Proofs.Ytaofambmajlhmaa
