/-
  laws.again of asfpong.
-/
import Derived.Test.YtaejicpdaldpiaaGreatAgain
import Derived.Test.YtaejicpdaldpiaaGreatAlive
import Derived.Test.YtaejicpdaldpiaaGreatSasfpong
import Derived.Test.YtaejicpdaldpiaaGreatPasfpong
import Derived.Test.YtaejicpdaldpiaaGreatWasfpong
namespace Go.Proofs.YtaejicpdaldpiaaGreat
open Go Go.RowKit

/-- Whether the bytes are plain. -/
def pAsfpong : List Int → Bool
  | _ :: _ :: _ :: _ :: _ :: _ :: _ :: _ :: x8 :: x9 :: x10 :: x11 :: x12 :: x13 :: x14 :: x15 :: _ => bits .and .u8 x8 126 == 0 && bits .and .u8 x9 95 == 0 && [x10, x11, x12, x13, x14, x15].all (· == 0)
  | _ => false

theorem two_ipmi' : ∀ k : Fin 256, bits BinOp.and .u8 ((k : Nat) : Int) 126 = 0 → two 128 1 (hasBit ((k : Nat) : Int) 128) (hasBit ((k : Nat) : Int) 1) = ((k : Nat) : Int) := by decide +kernel
theorem two_sec' : ∀ k : Fin 256, bits BinOp.and .u8 ((k : Nat) : Int) 95 = 0 → two 128 32 (hasBit ((k : Nat) : Int) 128) (hasBit ((k : Nat) : Int) 32) = ((k : Nat) : Int) := by decide +kernel
theorem two_ipmi {x : Int} (h : 0 ≤ x ∧ x ≤ 255) (hp : bits BinOp.and .u8 x 126 = 0) : two 128 1 (hasBit x 128) (hasBit x 1) = x := by
  obtain ⟨k, rfl⟩ := Int.eq_ofNat_of_zero_le h.1
  exact two_ipmi' ⟨k, by omega⟩ hp
theorem two_sec {x : Int} (h : 0 ≤ x ∧ x ≤ 255) (hp : bits BinOp.and .u8 x 95 = 0) : two 128 32 (hasBit x 128) (hasBit x 32) = x := by
  obtain ⟨k, rfl⟩ := Int.eq_ofNat_of_zero_le h.1
  exact two_sec' ⟨k, by omega⟩ hp

theorem write_asfpong {bs : List Int} (hb : ∀ z ∈ bs, 0 ≤ z ∧ z ≤ 255) (hl : bs.length ≤ 400) {l : Lay} (hd : dAsfpong bs = some l) (hp : pAsfpong bs = true) : WriteOf (.string ⟨#[97, 115, 102, 112, 111, 110, 103]⟩) l bs := by
  match bs, hb, hl, hd, hp with
  | x0 :: x1 :: x2 :: x3 :: x4 :: x5 :: x6 :: x7 :: x8 :: x9 :: x10 :: x11 :: x12 :: x13 :: x14 :: x15 :: rest, hb, hl, hd, hp =>
    obtain rfl := Option.some.inj hd
    have hr : rest.length ≤ 400 := by simp only [List.length_cons] at hl; omega
    have h0 := hb x0 (by simp)
    have h1 := hb x1 (by simp)
    have h2 := hb x2 (by simp)
    have h3 := hb x3 (by simp)
    have h4 := hb x4 (by simp)
    have h5 := hb x5 (by simp)
    have h6 := hb x6 (by simp)
    have h7 := hb x7 (by simp)
    have h8 := hb x8 (by simp)
    have h9 := hb x9 (by simp)
    have h10 := hb x10 (by simp)
    have h11 := hb x11 (by simp)
    have h12 := hb x12 (by simp)
    have h13 := hb x13 (by simp)
    have h14 := hb x14 (by simp)
    have h15 := hb x15 (by simp)
    simp only [pAsfpong, Bool.and_eq_true, List.all_cons, List.all_nil, Bool.and_true, beq_iff_eq] at hp
    obtain ⟨⟨p8, p9⟩, rfl, rfl, rfl, rfl, rfl, rfl⟩ := hp
    have := write_c (made_asfpong (pay := rest) (t2 := hasBit x8 128) (t3 := hasBit x8 1) (t4 := hasBit x9 128) (t5 := hasBit x9 32) (a0 := x4) (a1 := x5) (a2 := x6) (a3 := x7) (by omega : 0 ≤ ((x0 * 256 + x1) * 256 + x2) * 256 + x3 ∧ ((x0 * 256 + x1) * 256 + x2) * 256 + x3 ≤ 4294967295)) (ser_asfpong h0 h1 h2 h3 hr) m_ser_asfpong c_ser_asfpong (by simp; omega) (by simp) (by simp) (by simp) (by simp; omega)
    rwa [two_ipmi h8 p8, two_sec h9 p9] at this

theorem again_asfpong {bs : List Int} (hb : ∀ z ∈ bs, 0 ≤ z ∧ z ≤ 255) {v : Value} {w : World} (h : SB w (fun _ => True) v bs) :
    Calls Tryz.prog 16 #[.string ⟨#[97, 115, 102, 112, 111, 110, 103]⟩, v] w fun e w' => e = .returned (.bool true) ∧ Below w.heap.size w w' := by
  refine again_c (p := pAsfpong bs) (by kernel_rfl) (specOf_asfpong hb) (fun h4 l hd => ?_) (fun h4 l hd _ hp => write_asfpong hb h4 (Option.some.inj hd) hp) alive_c h
  replace hd := Option.some.inj hd
  match bs, hd with
  | x0 :: x1 :: x2 :: x3 :: x4 :: x5 :: x6 :: x7 :: x8 :: x9 :: x10 :: x11 :: x12 :: x13 :: x14 :: x15 :: rest, _ => exact plain_asfpong
end Go.Proofs.YtaejicpdaldpiaaGreat
