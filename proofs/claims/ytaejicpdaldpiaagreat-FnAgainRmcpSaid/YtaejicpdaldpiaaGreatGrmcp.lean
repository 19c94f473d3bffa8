/-
  laws.again of rmcp.
-/
import Derived.Test.YtaejicpdaldpiaaGreatAgain
import Derived.Test.YtaejicpdaldpiaaGreatAlive
import Derived.Test.YtaejicpdaldpiaaGreatSrmcp
import Derived.Test.YtaejicpdaldpiaaGreatPrmcp
import Derived.Test.YtaejicpdaldpiaaGreatWrmcp
namespace Go.Proofs.YtaejicpdaldpiaaGreat
open Go Go.RowKit

theorem join_rmcp' : ∀ k : Fin 256, (bits BinOp.and .u8 ((k : Nat) : Int) 112 == 0) = true → bits BinOp.or .u8 (b01 (decide (128 ≤ ((k : Nat) : Int))) * 128 % 256) (((k : Nat) : Int) % 16) = ((k : Nat) : Int) := by decide +kernel
theorem join_rmcp {x : Int} (h : 0 ≤ x ∧ x ≤ 255) (hp : (bits BinOp.and .u8 x 112 == 0) = true) : bits BinOp.or .u8 (b01 (decide (128 ≤ x)) * 128 % 256) (x % 16) = x := by
  obtain ⟨k, rfl⟩ := Int.eq_ofNat_of_zero_le h.1
  exact join_rmcp' ⟨k, by omega⟩ hp

/-- Whether the bytes are plain. -/
def pRmcp : List Int → Bool
  | _ :: x1 :: _ :: x3 :: _ => x1 == 0 && bits .and .u8 x3 112 == 0
  | _ => false

theorem write_rmcp {bs : List Int} (hb : ∀ z ∈ bs, 0 ≤ z ∧ z ≤ 255) (hl : bs.length ≤ 400) {l : Lay} (hd : dRmcp bs = some l) (hp : pRmcp bs = true) : WriteOf (.string ⟨#[114, 109, 99, 112]⟩) l bs := by
  match bs, hb, hl, hd, hp with
  | x0 :: x1 :: x2 :: x3 :: rest, hb, hl, hd, hp =>
    obtain rfl := Option.some.inj hd
    simp only [pRmcp, Bool.and_eq_true, beq_iff_eq] at hp
    obtain ⟨rfl, hp⟩ := hp
    have h0 := hb x0 (by simp)
    have h2 := hb x2 (by simp)
    have h3 := hb x3 (by simp)
    have hr : rest.length ≤ 400 := by simp at hl; omega
    have := write_c (made_rmcp (pay := rest) (t := decide (128 ≤ x3)) h0 h2 (by omega : 0 ≤ x3 % 16 ∧ x3 % 16 ≤ 255)) (ser_rmcp hr) m_ser_rmcp c_ser_rmcp (by simp; omega) (by simp) (by simp) (by simp) (by simp; omega)
    rwa [join_rmcp h3 (by rw [hp]; rfl)] at this

theorem again_rmcp {bs : List Int} (hb : ∀ z ∈ bs, 0 ≤ z ∧ z ≤ 255) {v : Value} {w : World} (h : SB w (fun _ => True) v bs) :
    Calls Tryz.prog 16 #[.string ⟨#[114, 109, 99, 112]⟩, v] w fun e w' => e = .returned (.bool true) ∧ Below w.heap.size w w' := by
  refine again_c (p := pRmcp bs) (by kernel_rfl) (specOf_rmcp hb) (fun h4 l hd => ?_) (fun h4 l hd _ hp => write_rmcp hb h4 (Option.some.inj hd) hp) alive_c h
  replace hd := Option.some.inj hd
  match bs, hd with
  | x0 :: x1 :: x2 :: x3 :: rest, _ => exact plain_rmcp
end Go.Proofs.YtaejicpdaldpiaaGreat
