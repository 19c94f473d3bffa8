/-
  impl.Read of rmcp.
-/
import Derived.Test.YtmpifdanfnebpaaGreatDrmcp
import Derived.Test.YtmpifdanfnebpaaGreatTa
namespace Go.Proofs.YtmpifdanfnebpaaGreat
open Go Go.RowKit

set_option maxRecDepth 100000 in
set_option maxHeartbeats 1000000 in
theorem told_rmcp {X : Nat} {pl : Value} {l : Lay} {w : World} (hX : IsRmcp w X pl l) (hlen : l.payload.length ≤ 140737488355328) :
    Calls Tryz.prog 35 #[.iface 130 (.pointer (some ⟨X, 0, none⟩)), pl] w fun e' w' => ∃ v, e' = .returned (.tuple #[v, .bool true]) ∧ LayOn w' (fun b => w.heap.size ≤ b) v l ∧ Below w.heap.size w w' := by
  obtain ⟨e, t, g, n, pay, rfl, _, hp, c2, c3, c4, c5, he, ht, hn⟩ := hX
  have lX := World.block_lt_of_cell? _ _ c2
  have HP := Lib.hid hp
  clear hp
  have a0 := ta12_0
  have a1 := ta12_1
  have a2 := ta12_2
  have a3 := ta12_3
  have a4 := ta12_4
  have a5 := ta12_5
  have a6 := ta12_6
  have a7 := ta12_7
  have a8 := ta12_8
  have a9 := ta12_9
  have a10 := ta12_10
  have a11 := ta12_11
  have a12 := ta12_12
  go_enter Tryz.func35, Tryz.ntmps35
  go_wp2_with (go_at_call 32; refine (clone_c (HP.out.keeps (by repeat (first | with_reducible assumption | with_reducible exact Keeps.refl _ _ | with_reducible refine Keeps.drew ?_ | with_reducible refine Keeps.drewN ?_ _ | with_reducible refine Keeps.alloc ?_ _ | with_reducible refine Keeps.setCell ?_ ?_ _ | omega | focus (simp; done) | focus (simp; omega)))) hlen).mono ?_; rintro e1 w1 ⟨q, cq, rfl, hq, hb1⟩; have HQ := Lib.hid hq; clear hq)
  have k2 := cell_keep hb1 c2
  have k3 := cell_keep hb1 c3
  have k4 := cell_keep hb1 c4
  have k5 := cell_keep hb1 c5
  obtain ⟨r0, r1, r2, r3⟩ := cells4 hb1
  obtain ⟨f0, f1, f2, f3⟩ := frozen4 hb1
  have lw := size_new hb1
  have lX1 : X < w1.heap.size := by omega
  have HB := Lib.hid hb1
  clear hb1 c2 c3 c4 c5 lX a0 a1 a2 a3 a4 a5 a6 a7 a8 a9 a10 a11 a12
  refine wp_region_same [24] (.q 0 (.q 1 (.q 2 (.q 3 (.q 4 (.q 5 (.q 6 (.q 7 (.q 8 (.q 9 (.q 10 (.q 11 (.q 12 (.q 13 (.q 14 (.q 16 (.q 17 (.q 18 (.q 19 (.q 20 (.l 15 (.l 21 (.q 22 (.q 23 (.l 24 .done .stop))) .stop) .stop))))))))))))))))))))) (by kernel_rfl) (by kernel_rfl) (fun _ _ d _ _ h => by cases d <;> exact h) (by simp only [Ord.fill, nthOp]; rfl) ?_; intro hSm
  repeat
    first | refine lexO_pass rfl ?_ | (refine lexO_take2 ?_ rfl (by kernel_rfl) (by with_reducible assumption) (fun w' hS K Q' hK => ?_) ?_; rotate_left; focus (have hS2 := hS.2; clear hS; go_wp2_with fail; exact hK))
  refine lexO_do rfl (fun K hK => ?_) lexO_stop
  go_wp2_with (go_at_call 37; refine bit_c.mono ?_; rintro e' w' ⟨rfl, rfl⟩)
  refine step_and (by repeat (first | with_reducible assumption | with_reducible exact SameAt.refl _ | with_reducible refine SameAt.drew ?_ | with_reducible refine SameAt.drewN ?_ _ | with_reducible refine SameAt.alloc ?_ _ | (refine SameAt.below ?_ (by with_reducible assumption)))) (fun _ => ?_)
  repeat
    first | refine lexO_pass rfl ?_ | (refine lexO_take2 ?_ rfl (by kernel_rfl) (by with_reducible assumption) (fun w' hS K Q' hK => ?_) ?_; rotate_left; focus (have hS2 := hS.2; clear hS; go_wp2_with fail; exact hK))
  refine lexO_do rfl (fun K hK => ?_) lexO_stop
  go_wp2_with fail
  refine step_and (by repeat (first | with_reducible assumption | with_reducible exact SameAt.refl _ | with_reducible refine SameAt.drew ?_ | with_reducible refine SameAt.drewN ?_ _ | with_reducible refine SameAt.alloc ?_ _ | (refine SameAt.below ?_ (by with_reducible assumption)))) (fun _ => ?_)
  repeat
    first | refine lexO_pass rfl ?_ | (refine lexO_take2 ?_ rfl (by kernel_rfl) (by with_reducible assumption) (fun w' hS K Q' hK => ?_) ?_; rotate_left; focus (have hS2 := hS.2; clear hS; go_wp2_with fail; exact hK))
  refine lexO_do rfl (fun K hK => ?_) lexO_stop
  go_wp2_with fail
  refine step_last (by decide) (lexO_done ?_)
  go_wp2
  have hs : (SB w1 (fun b => w.heap.size + 1 ≤ b) (.slice q pay.length cq) pay) := by have := HQ.out; simpa using this
  refine bodyPost_ret (v := .tuple #[.agg #[.slice (some ⟨w1.heap.size + 1, 0, none⟩) 4 4, .slice none 0 0, .slice none 0 0, .slice q pay.length cq], .bool true]) (by simp only [results, Tryz.results35]; go_simp) rfl ?_
  have h0 := below_new HB.out
  refine ⟨_, rfl, ⟨_, _, _, _, rfl, IsSl.block (cs := #[.int .u64 e, .int .u64 t, .int .u64 (b01 g), .int .u64 n]) (e := 39) (f := (0, 0)) (by (try simp only [heap_drew]); repeat (first | (with_reducible refine heap_last ?_; focus (simp; done)) | with_reducible refine heap_past ?_)) (by omega) (by omega), SD.nil _ _, SP.nil _ _, ?_⟩, (by repeat (first | with_reducible assumption | with_reducible refine Below.drew ?_ | with_reducible refine below_drewN' ?_ _ | with_reducible refine Below.alloc ?_ ?_ _ | with_reducible refine Below.setCell ?_ ?_ _ | with_reducible exact Nat.le_refl _ | omega | focus (simp; done) | focus (simp; omega)))⟩
  exact (hs.keeps (by repeat (first | with_reducible assumption | with_reducible exact Keeps.refl _ _ | with_reducible refine Keeps.drew ?_ | with_reducible refine Keeps.drewN ?_ _ | with_reducible refine Keeps.alloc ?_ _ | with_reducible refine Keeps.setCell ?_ ?_ _ | omega | focus (simp; done) | focus (simp; omega)))).imp (fun b _ (hb : w.heap.size + 1 ≤ b) => (by omega : w.heap.size ≤ b))

theorem m_pay_rmcp (k : Nat) (a : Addr) (w : World) : (method (k + 1) 130 (.pointer (some a)) "LayerPayload").run Tryz.prog w = .ok (87, .pointer (some a)) w := by kernel_rfl

theorem impl_rmcp {bs : List Int} (hb : ∀ z ∈ bs, 0 ≤ z ∧ z ≤ 255) (hl : bs.length ≤ 2000) : ImplOf (.string ⟨#[114, 109, 99, 112]⟩) bs (dRmcp bs) := by
  refine read_c hl (decOf_rmcp hb) (fun _ _ _ _ _ k h => isRmcp_below k h) (fun l h X pl w hi => told_rmcp hi ?_) (fun _ _ _ _ h => isRmcp_pl h) m_pay_rmcp
  match bs, hl, h with
  | x0 :: x1 :: x2 :: x3 :: rest, hl, h =>
    obtain rfl := Option.some.inj h
    simp at hl ⊢
    omega
end Go.Proofs.YtmpifdanfnebpaaGreat
