/-
  impl.told and impl.Read of mld1query.
-/
import Derived.Test.YtaofambmajlhmaaDmldq
import Derived.Test.YtaofambmajlhmaaTa
import Derived.Test.YtaofambmajlhmaaLaw
namespace Go.Proofs.Ytaofambmajlhmaa
open Go Go.RowKit

set_option maxRecDepth 100000 in
set_option maxHeartbeats 1000000 in
theorem told_mldq {X : Nat} {pl : Value} {l : Lay} {w : World} (hX : IsMldq w X pl l) (hlen : l.payload.length ≤ 140737488355328) :
    Calls Try.prog 36 #[.iface 91 (.pointer (some ⟨X, 0, none⟩)), pl] w fun e' w' => ∃ v, e' = .returned (.tuple #[v, .bool true]) ∧ LayOn w' (fun b => w.heap.size ≤ b) v l ∧ Below w.heap.size w w' := by
  obtain ⟨a, mv, ma, pay, rfl, _, hp, c2, c3, hd, ha, hm⟩ := hX
  have lX := World.block_lt_of_cell? _ _ c2
  have HP := Lib.hid hp
  clear hp
  have HD0 := Lib.hid hd
  clear hd
  have a0 := ta4_0
  have a1 := ta4_1
  have a2 := ta4_2
  have a3 := ta4_3
  have a4 := ta4_4
  go_enter Try.func36, Try.ntmps36
  go_wp2_with fail
  refine (clone_c (HP.out.keeps (by repeat (first | with_reducible assumption | with_reducible exact Keeps.refl _ _ | with_reducible refine Keeps.drew ?_ | with_reducible refine Keeps.alloc ?_ _ | with_reducible refine Keeps.setCell ?_ ?_ _ | omega | focus (simp; done) | focus (simp; omega)))) hlen).mono ?_
  rintro e1 w1 ⟨q, cq, rfl, hq, hb1⟩
  have HQ := Lib.hid hq
  clear hq
  have k2 := cell_keep hb1 c2
  have k3 := cell_keep hb1 c3
  obtain ⟨r0, r1, r2, r3⟩ := cells4 hb1
  obtain ⟨f0, f1, f2, f3⟩ := frozen4 hb1
  have lw := size_new hb1
  have lX1 : X < w1.heap.size := by omega
  have HB := Lib.hid hb1
  clear hb1 c2 c3 lX
  have HD := Lib.hid ((HD0.out.imp (fun b hb _ => hb : ∀ b, b < w.heap.size → True → b < w.heap.size)).keeps (Keeps.of_below (below_new HB.out)))
  go_wp2_with fail
  refine (clone_c (HD.out.keeps (by repeat (first | with_reducible assumption | with_reducible exact Keeps.refl _ _ | with_reducible refine Keeps.drew ?_ | with_reducible refine Keeps.alloc ?_ _ | with_reducible refine Keeps.setCell ?_ ?_ _ | omega | focus (simp; done) | focus (simp; omega)))) (by omega)).mono ?_
  rintro e2 w2 ⟨q2, cq2, rfl, hq2, hb2⟩
  have l2 := hb2.size
  have L0 : w2.cell? ⟨w1.heap.size, 0, none⟩ = some (.slice (some ⟨w1.heap.size + 1, 0, none⟩) 1 1) := (hb2.cell (p := ⟨w1.heap.size, 0, none⟩) (by simp; omega)).trans (by go_simp)
  have L1 : w2.cell? ⟨w1.heap.size, 1, none⟩ = some (.slice none 0 0) := (hb2.cell (p := ⟨w1.heap.size, 1, none⟩) (by simp; omega)).trans (by go_simp)
  have L2 : w2.cell? ⟨w1.heap.size, 2, none⟩ = some (.slice none 0 0) := (hb2.cell (p := ⟨w1.heap.size, 2, none⟩) (by simp; omega)).trans (by go_simp)
  have L3 : w2.cell? ⟨w1.heap.size, 3, none⟩ = some (.slice q pay.length cq) := (hb2.cell (p := ⟨w1.heap.size, 3, none⟩) (by simp; omega)).trans (by go_simp)
  have g0 : w2.frozen? ⟨w1.heap.size, 0, none⟩ = false := (hb2.frozen (p := ⟨w1.heap.size, 0, none⟩) (by simp; omega)).trans (by go_simp)
  have g1 : w2.frozen? ⟨w1.heap.size, 1, none⟩ = false := (hb2.frozen (p := ⟨w1.heap.size, 1, none⟩) (by simp; omega)).trans (by go_simp)
  have R0 : w2.cell? ⟨w.heap.size, 0, none⟩ = some (.slice none 0 0) := (hb2.cell (p := ⟨w.heap.size, 0, none⟩) (by simp; omega)).trans (by go_simp)
  have R1 : w2.cell? ⟨w.heap.size, 1, none⟩ = some (.slice none 0 0) := (hb2.cell (p := ⟨w.heap.size, 1, none⟩) (by simp; omega)).trans (by go_simp)
  have R2 : w2.cell? ⟨w.heap.size, 2, none⟩ = some (.slice none 0 0) := (hb2.cell (p := ⟨w.heap.size, 2, none⟩) (by simp; omega)).trans (by go_simp)
  have R3 : w2.cell? ⟨w.heap.size, 3, none⟩ = some (.slice none 0 0) := (hb2.cell (p := ⟨w.heap.size, 3, none⟩) (by simp; omega)).trans (by go_simp)
  have z0 : w2.frozen? ⟨w.heap.size, 0, none⟩ = false := (hb2.frozen (p := ⟨w.heap.size, 0, none⟩) (by simp; omega)).trans (by go_simp)
  have z1 : w2.frozen? ⟨w.heap.size, 1, none⟩ = false := (hb2.frozen (p := ⟨w.heap.size, 1, none⟩) (by simp; omega)).trans (by go_simp)
  have z2 : w2.frozen? ⟨w.heap.size, 2, none⟩ = false := (hb2.frozen (p := ⟨w.heap.size, 2, none⟩) (by simp; omega)).trans (by go_simp)
  have z3 : w2.frozen? ⟨w.heap.size, 3, none⟩ = false := (hb2.frozen (p := ⟨w.heap.size, 3, none⟩) (by simp; omega)).trans (by go_simp)
  have HQ2 := Lib.hid (hq2.imp (fun b _ hb => (by simp at hb; omega : w1.heap.size < b)))
  have HN2 := Lib.hid ((hb2.block (w1.heap.size + 1) (by simp)).trans (show _ = some (.cells #[.int .u64 a] 39 (0, 0)) from (by (try simp only [heap_drew]); repeat (first | (with_reducible refine heap_last ?_; focus (simp; done)) | with_reducible refine heap_past ?_ | (with_reducible refine heap_set ?_ ?_; focus (first | omega | (simp; done) | (simp; omega))) | with_reducible assumption))))
  have hs := HQ.out
  have HS2 := Lib.hid ((show SB w1 (fun b => w.heap.size + 1 ≤ b ∧ b < w1.heap.size) (.slice q pay.length cq) pay from (by refine hs.imp ?_; intro b hbl hb; exact ⟨by simpa using hb, hbl⟩)).keeps (Keeps.trans (by repeat (first | with_reducible assumption | with_reducible exact Keeps.refl _ _ | with_reducible refine Keeps.drew ?_ | with_reducible refine Keeps.alloc ?_ _ | with_reducible refine Keeps.setCell ?_ ?_ _ | omega | focus (simp; done) | focus (simp; omega))) (Keeps.of_below hb2)))
  have h0 := below_new HB.out
  have HB2 := Lib.hid (show Below w.heap.size w w2 from below_next (by repeat (first | with_reducible assumption | with_reducible refine Below.drew ?_ | with_reducible refine Below.alloc ?_ ?_ _ | with_reducible refine Below.setCell ?_ ?_ _ | with_reducible exact Nat.le_refl _ | omega | focus (simp; done) | focus (simp; omega))) hb2 (by simp; omega))
  have l21 : w1.heap.size < w2.heap.size := by simp at l2; omega
  have l20 : w.heap.size < w2.heap.size := by omega
  clear hq2 hb2 hs h0
  go_wp2_with fail
  refine bodyPost_ret (v := .tuple #[.agg #[.slice (some ⟨w1.heap.size + 1, 0, none⟩) 1 1, .slice (some ⟨w2.heap.size, 0, none⟩) 1 1, .slice none 0 0, .slice q pay.length cq], .bool true]) (by simp only [results, Try.results36]; go_simp) rfl ?_
  have h0 := HB2.out
  have hn2 := HN2.out
  refine ⟨_, rfl, ⟨_, _, _, _, rfl, IsSl.block (cs := #[.int .u64 a]) (e := 39) (f := (0, 0)) (by (try simp only [heap_drew]); repeat (first | (with_reducible refine heap_last ?_; focus (simp; done)) | with_reducible refine heap_past ?_ | (with_reducible refine heap_set ?_ ?_; focus (first | omega | (simp; done) | (simp; omega))) | with_reducible assumption)) (by omega) (by omega), SD.one (v := .slice q2 ma.length cq2) (e := 22) (f := (0, 0)) (by (try simp only [heap_drew]); repeat (first | (with_reducible refine heap_last ?_; focus (simp; done)) | with_reducible refine heap_past ?_ | (with_reducible refine heap_set ?_ ?_; focus (first | omega | (simp; done) | (simp; omega))) | with_reducible assumption)) (by omega) ((HQ2.out.keeps (by repeat (first | with_reducible assumption | with_reducible exact Keeps.refl _ _ | with_reducible refine Keeps.drew ?_ | with_reducible refine Keeps.alloc ?_ _ | with_reducible refine Keeps.setCell ?_ ?_ _ | omega | focus (simp; done) | focus (simp; omega)))).imp (fun b _ hb => by omega)), SP.nil _ _, (HS2.out.keeps (by repeat (first | with_reducible assumption | with_reducible exact Keeps.refl _ _ | with_reducible refine Keeps.drew ?_ | with_reducible refine Keeps.alloc ?_ _ | with_reducible refine Keeps.setCell ?_ ?_ _ | omega | focus (simp; done) | focus (simp; omega)))).imp (fun b _ hb => by omega)⟩, (by repeat (first | with_reducible assumption | with_reducible refine Below.drew ?_ | with_reducible refine Below.alloc ?_ ?_ _ | with_reducible refine Below.setCell ?_ ?_ _ | with_reducible exact Nat.le_refl _ | omega | focus (simp; done) | focus (simp; omega)))⟩

theorem m_pay_mldq (k : Nat) (a : Addr) (w : World) : (method (k + 1) 91 (.pointer (some a)) "LayerPayload").run Try.prog w = .ok (94, .pointer (some a)) w := by kernel_rfl

set_option maxHeartbeats 2000000 in
theorem impl_mldq {bs : List Int} (hb : ∀ z ∈ bs, 0 ≤ z ∧ z ≤ 255) (hl : bs.length ≤ 2000) : ImplOf (.string ⟨#[109, 108, 100, 49, 113, 117, 101, 114, 121]⟩) bs (dMldq bs) := by
  refine read_c hl (decOf_mldq hb) (fun _ _ _ _ _ k h => isMldq_below k h) (fun l h X pl w hi => told_mldq hi ?_) (fun _ _ _ _ h => isMldq_pl h) m_pay_mldq
  match bs, hl, h with
  | x0 :: x1 :: x2 :: x3 :: x4 :: x5 :: x6 :: x7 :: x8 :: x9 :: x10 :: x11 :: x12 :: x13 :: x14 :: x15 :: x16 :: x17 :: x18 :: x19 :: rest, hl, h =>
    obtain rfl := Option.some.inj h
    simp at hl ⊢
    omega
end Go.Proofs.Ytaofambmajlhmaa
