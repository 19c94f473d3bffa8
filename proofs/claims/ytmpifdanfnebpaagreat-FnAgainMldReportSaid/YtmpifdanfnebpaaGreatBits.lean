/-
  Bits of a byte; a list of one slice of bytes.
-/
import Derived.Test.YtmpifdanfnebpaaGreatDec
namespace Go.Proofs.YtmpifdanfnebpaaGreat
open Go Go.RowKit

/-- Whether a byte has a bit. -/
def hasBit (x m : Int) : Bool := bits BinOp.and IntKind.u8 x m != 0
theorem hasBit_def (x m : Int) : (bits BinOp.and IntKind.u8 x m != 0) = hasBit x m := rfl

theorem hasBit_128' : ∀ k : Fin 256, b01 (hasBit ((k : Nat) : Int) 128) = ((k : Nat) : Int) / 128 := by decide +kernel
theorem hasBit_32' : ∀ k : Fin 256, b01 (hasBit ((k : Nat) : Int) 32) = ((k : Nat) : Int) / 32 % 2 := by decide +kernel
theorem hasBit_1' : ∀ k : Fin 256, b01 (hasBit ((k : Nat) : Int) 1) = ((k : Nat) : Int) % 2 := by decide +kernel
theorem hasBit_128 {x : Int} (h : 0 ≤ x ∧ x ≤ 255) : b01 (hasBit x 128) = x / 128 := by
  obtain ⟨k, rfl⟩ := Int.eq_ofNat_of_zero_le h.1
  exact hasBit_128' ⟨k, by omega⟩
theorem hasBit_32 {x : Int} (h : 0 ≤ x ∧ x ≤ 255) : b01 (hasBit x 32) = x / 32 % 2 := by
  obtain ⟨k, rfl⟩ := Int.eq_ofNat_of_zero_le h.1
  exact hasBit_32' ⟨k, by omega⟩
theorem hasBit_1 {x : Int} (h : 0 ≤ x ∧ x ≤ 255) : b01 (hasBit x 1) = x % 2 := by
  obtain ⟨k, rfl⟩ := Int.eq_ofNat_of_zero_le h.1
  exact hasBit_1' ⟨k, by omega⟩

theorem wrap_bit1' : ∀ k : Fin 256, IntKind.u64.wrap (bits BinOp.and IntKind.u8 ((k : Nat) : Int) 1) = ((k : Nat) : Int) % 2 := by decide +kernel
theorem wrap_bit1 {x : Int} (h : 0 ≤ x ∧ x ≤ 255) : IntKind.u64.wrap (bits BinOp.and IntKind.u8 x 1) = x % 2 := by
  obtain ⟨k, rfl⟩ := Int.eq_ofNat_of_zero_le h.1
  exact wrap_bit1' ⟨k, by omega⟩

theorem heap_set {W : World} {p : Addr} {v : Value} {n : Nat} {x : Obj} (hn : n ≠ p.block) (h : W.heap[n]? = some x) : (W.setCell p v).heap[n]? = some x := (Below.heap_setCell _ _ _ _ hn).trans h

theorem SD.one {w : World} {ok : Nat → Prop} {v : Value} {bs : List Int} {b : Nat} {e : TypeId} {f : Nat × Nat} (h : w.heap[b]? = some (.cells #[v] e f)) (ho : ok b) (hv : SB w ok v bs) : SD w ok (.slice (some ⟨b, 0, none⟩) 1 1) [bs] := by
  refine ⟨[v], rfl, IsSl.block (n := 1) h ho (by omega), fun j u d hu hd => ?_⟩
  cases j with
  | zero =>
    simp at hu hd
    subst hu hd
    exact hv
  | succ j => simp at hu
end Go.Proofs.YtmpifdanfnebpaaGreat
