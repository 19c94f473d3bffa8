/-
  laws.again of mldq.
-/
import Derived.Test.YtaejicpdaldpiaaGreatAgain
import Derived.Test.YtaejicpdaldpiaaGreatAlive
import Derived.Test.YtaejicpdaldpiaaGreatSmldq
import Derived.Test.YtaejicpdaldpiaaGreatPmldq
import Derived.Test.YtaejicpdaldpiaaGreatWmld
import Derived.Test.YtaejicpdaldpiaaGreatMmldq
namespace Go.Proofs.YtaejicpdaldpiaaGreat
open Go Go.RowKit

/-- Whether the bytes are plain. -/
def pMldq : List Int → Bool
  | _ :: _ :: x2 :: x3 :: _ :: _ :: _ :: _ :: _ :: _ :: _ :: _ :: _ :: _ :: _ :: _ :: _ :: _ :: _ :: _ :: _ => (x2 == 0 && x3 == 0)
  | _ => false

theorem m_ser_mldq (k : Nat) (a : Addr) (w : World) : (method (k + 1) 85 (.pointer (some a)) "SerializeTo").run Tryz.prog w = .ok (113, .pointer (some a)) w := by kernel_rfl
theorem c_ser_mldq (args : Array Value) (W : World) : (callFunc 113 args).run Tryz.prog W = .ok (.enter 113 args) W := by kernel_rfl

theorem write_mldq {bs : List Int} (hb : ∀ z ∈ bs, 0 ≤ z ∧ z ≤ 255) (hl : bs.length ≤ 400) {l : Lay} (hd : dMldq bs = some l) (hp : pMldq bs = true) : WriteOf (.string ⟨#[109, 108, 100, 49, 113, 117, 101, 114, 121]⟩) l bs := by
  match bs, hb, hl, hd, hp with
  | x0 :: x1 :: x2 :: x3 :: x4 :: x5 :: x6 :: x7 :: x8 :: x9 :: x10 :: x11 :: x12 :: x13 :: x14 :: x15 :: x16 :: x17 :: x18 :: x19 :: rest, hb, hl, hd, hp =>
    obtain rfl := Option.some.inj hd
    have hr : rest.length ≤ 400 := by simp only [List.length_cons] at hl; omega
    have h0 := hb x0 (by simp)
    have h1 := hb x1 (by simp)
    have h2 := hb x2 (by simp)
    have h3 := hb x3 (by simp)
    have h4 := hb x4 (by simp)
    have h5 := hb x5 (by simp)
    have h6 := hb x6 (by simp)
    have h7 := hb x7 (by simp)
    have h8 := hb x8 (by simp)
    have h9 := hb x9 (by simp)
    have h10 := hb x10 (by simp)
    have h11 := hb x11 (by simp)
    have h12 := hb x12 (by simp)
    have h13 := hb x13 (by simp)
    have h14 := hb x14 (by simp)
    have h15 := hb x15 (by simp)
    have h16 := hb x16 (by simp)
    have h17 := hb x17 (by simp)
    have h18 := hb x18 (by simp)
    have h19 := hb x19 (by simp)
    obtain ⟨rfl, rfl⟩ : x2 = 0 ∧ x3 = 0 := by simpa [pMldq] using hp
    exact write_c (made_mldq (pay := rest) (x0 := (x0 * 256 + x1) * 1000000) (d1 := [x4, x5, x6, x7, x8, x9, x10, x11, x12, x13, x14, x15, x16, x17, x18, x19]) (by omega) (by simp)) (ser_mld (ds := [x4, x5, x6, x7, x8, x9, x10, x11, x12, x13, x14, x15, x16, x17, x18, x19]) h0 h1 rfl (pay := rest) hr) m_ser_mldq c_ser_mldq (by simp; omega) (by simp) (by simp) (by simp) (by simp; omega)

theorem again_mldq {bs : List Int} (hb : ∀ z ∈ bs, 0 ≤ z ∧ z ≤ 255) {v : Value} {w : World} (h : SB w (fun _ => True) v bs) :
    Calls Tryz.prog 16 #[.string ⟨#[109, 108, 100, 49, 113, 117, 101, 114, 121]⟩, v] w fun e w' => e = .returned (.bool true) ∧ Below w.heap.size w w' := by
  refine again_c (p := pMldq bs) (by kernel_rfl) (specOf_mldq hb) (fun h4 l hd => ?_) (fun h4 l hd _ hp => write_mldq hb h4 (Option.some.inj hd) hp) alive_c h
  replace hd := Option.some.inj hd
  match bs, hd with
  | x0 :: x1 :: x2 :: x3 :: x4 :: x5 :: x6 :: x7 :: x8 :: x9 :: x10 :: x11 :: x12 :: x13 :: x14 :: x15 :: x16 :: x17 :: x18 :: x19 :: rest, _ => exact plain_mldq
end Go.Proofs.YtaejicpdaldpiaaGreat
