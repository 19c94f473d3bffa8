/-
  Whether bytes are 0 (a function of spec.Plain's own); xnet.IP.To16 of sixteen bytes.
-/
import Derived.Test.YtmpifdanfnebpaaGreatVoc
import Derived.Test.YtmpifdanfnebpaaGreatSpec
namespace Go.Proofs.YtmpifdanfnebpaaGreat
open Go Go.RowKit

set_option maxRecDepth 100000 in
set_option maxHeartbeats 1000000 in
theorem zero_c {g o n c : Nat} (bs : List Int) {w : World} (hl : bs.length = n) (hn : n ≤ 100)
    (hc : ∀ j (h : j < bs.length), w.cell? ⟨g, o + j, none⟩ = some (.int .u8 bs[j])) :
    Calls Tryz.prog 22 #[.slice (some ⟨g, o, none⟩) n c] w fun e w' => e = .returned (.bool (bs.all (· == 0))) ∧ w = w' := by
  have HL : Hid (bs.length = n) := hl
  have HC := Lib.hid hc
  clear hl hc
  go_enter Tryz.func22, Tryz.ntmps22
  go_wp2
  go_loop [4, 7] (fun _ i => ∃ k : Nat, k ≤ n ∧ i = .int .i64 k ∧ Hid ((bs.take k).all (· == 0) = true)) (fun _ i => n - (intOf i).toNat)
  case atStart => exact ⟨0, Nat.zero_le _, rfl, Lib.hid (by simp)⟩
  case round =>
    obtain ⟨k, hk, rfl, hz⟩ := hrel
    by_cases hlt : k < n
    · have hlt' : k < bs.length := by rw [HL.out]; exact hlt
      have hck := HC.out k hlt'
      have hs : (bs.take (k + 1)).all (· == 0) = ((bs.take k).all (· == 0) && (bs[k] == 0)) := by rw [List.take_succ_eq_append_getElem hlt', List.all_append, List.all_cons, List.all_nil, Bool.and_true]
      rw [hz.out, Bool.true_and] at hs
      have hd : bs.all (· == 0) = ((bs.take (k + 1)).all (· == 0) && (bs.drop (k + 1)).all (· == 0)) := by rw [← List.all_append, List.take_append_drop]
      rw [hs] at hd
      have HS := Lib.hid hs
      have HD := Lib.hid hd
      clear hs hd
      generalize hb : bs[k] = z at *
      clear hb
      have hI : ((k : Nat) : Int) < (n : Int) := by omega
      have HK1 := Lib.hid hlt
      cases hq : (z == 0) with
      | true =>
        have hq2 : (z != 0) = false := by simp [bne, hq]
        rw [hq] at HS
        go_wp2
        go_round
        case rel => exact ⟨k + 1, HK1.out, by go_num, HS⟩
        case measure => have := HK1.out; simp [intOf]; omega
      | false =>
        have hq2 : (z != 0) = true := by simp [bne, hq]
        rw [hq] at HD
        go_wp2
        go_ret
        refine ⟨?_, rfl⟩
        rw [HD.out]
        rfl
    · obtain rfl : k = n := by omega
      rw [List.take_of_length_le (by rw [HL.out]; exact Nat.le_refl _)] at hz
      have hI : ¬ ((k : Nat) : Int) < (k : Int) := by omega
      go_wp2
      go_ret
      refine ⟨?_, rfl⟩
      rw [hz.out]
      rfl

theorem zero2_c {g o c : Nat} (x0 x1 : Int) {w : World} (c0 : w.cell? ⟨g, o, none⟩ = some (.int .u8 x0)) (c1 : w.cell? ⟨g, o + 1, none⟩ = some (.int .u8 x1)) :
    Calls Tryz.prog 22 #[.slice (some ⟨g, o, none⟩) 2 c] w fun e w' => e = .returned (.bool (x0 == 0 && x1 == 0)) ∧ w = w' := by
  have h := zero_c (g := g) (o := o) (n := 2) (c := c) [x0, x1] (w := w) rfl (by omega) (fun j hj => by
    match j, hj with
    | 0, _ => exact c0
    | 1, _ => exact c1)
  simpa using h

set_option maxHeartbeats 1000000 in
theorem to16_c {p : Option Addr} {c : Nat} {w : World} : Calls Tryz.prog 99 #[.slice p 16 c] w fun e w' => e = .returned (.slice p 16 c) ∧ w = w' := by
  go_enter Tryz.func99, Tryz.ntmps99
  go_wp2
  go_ret
  exact ⟨rfl, rfl⟩
end Go.Proofs.YtmpifdanfnebpaaGreat
