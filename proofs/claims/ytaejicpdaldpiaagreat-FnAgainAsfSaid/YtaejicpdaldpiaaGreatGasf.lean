/-
  laws.again of asf.
-/
import Derived.Test.YtaejicpdaldpiaaGreatAgain
import Derived.Test.YtaejicpdaldpiaaGreatAlive
import Derived.Test.YtaejicpdaldpiaaGreatSasf
import Derived.Test.YtaejicpdaldpiaaGreatPasf
import Derived.Test.YtaejicpdaldpiaaGreatWasf
namespace Go.Proofs.YtaejicpdaldpiaaGreat
open Go Go.RowKit

/-- Whether the bytes are plain. -/
def pAsf : List Int → Bool
  | _ :: _ :: _ :: _ :: _ :: _ :: x6 :: _ :: _ => x6 == 0
  | _ => false

theorem write_asf {bs : List Int} (hb : ∀ z ∈ bs, 0 ≤ z ∧ z ≤ 255) (hl : bs.length ≤ 400) {l : Lay} (hd : dAsf bs = some l) (hp : pAsf bs = true) : WriteOf (.string ⟨#[97, 115, 102]⟩) l bs := by
  match bs, hb, hl, hd, hp with
  | x0 :: x1 :: x2 :: x3 :: x4 :: x5 :: x6 :: x7 :: rest, hb, hl, hd, hp =>
    obtain rfl := Option.some.inj hd
    have hr : rest.length ≤ 400 := by simp only [List.length_cons] at hl; omega
    have h0 := hb x0 (by simp)
    have h1 := hb x1 (by simp)
    have h2 := hb x2 (by simp)
    have h3 := hb x3 (by simp)
    have h4 := hb x4 (by simp)
    have h5 := hb x5 (by simp)
    have h6 := hb x6 (by simp)
    have h7 := hb x7 (by simp)
    obtain rfl : x6 = 0 := by simpa [pAsf] using hp
    exact write_c (made_asf (pay := rest) (by omega) h4 h5 h7) (ser_asf h0 h1 h2 h3 hr) m_ser_asf c_ser_asf (by simp; omega) (by simp) (by simp) (by simp) (by simp; omega)

theorem again_asf {bs : List Int} (hb : ∀ z ∈ bs, 0 ≤ z ∧ z ≤ 255) {v : Value} {w : World} (h : SB w (fun _ => True) v bs) :
    Calls Tryz.prog 16 #[.string ⟨#[97, 115, 102]⟩, v] w fun e w' => e = .returned (.bool true) ∧ Below w.heap.size w w' := by
  refine again_c (p := pAsf bs) (by kernel_rfl) (specOf_asf hb) (fun h4 l hd => ?_) (fun h4 l hd _ hp => write_asf hb h4 (Option.some.inj hd) hp) alive_c h
  replace hd := Option.some.inj hd
  match bs, hd with
  | x0 :: x1 :: x2 :: x3 :: x4 :: x5 :: x6 :: x7 :: rest, _ => exact plain_asf
end Go.Proofs.YtaejicpdaldpiaaGreat
