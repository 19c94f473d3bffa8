/-
  laws.again of icmp.
-/
import Derived.Test.YtaejicpdaldpiaaGreatAgain
import Derived.Test.YtaejicpdaldpiaaGreatAlive
import Derived.Test.YtaejicpdaldpiaaGreatSicmp
import Derived.Test.YtaejicpdaldpiaaGreatPicmp
import Derived.Test.YtaejicpdaldpiaaGreatWicmp
namespace Go.Proofs.YtaejicpdaldpiaaGreat
open Go Go.RowKit

/-- Whether the bytes are plain. -/
def pIcmp : List Int → Bool
  | _ :: _ :: _ :: _ :: _ => true
  | _ => false

theorem write_icmp {bs : List Int} (hb : ∀ z ∈ bs, 0 ≤ z ∧ z ≤ 255) (hl : bs.length ≤ 400) {l : Lay} (hd : dIcmp bs = some l) (hp : pIcmp bs = true) : WriteOf (.string ⟨#[105, 99, 109, 112, 54]⟩) l bs := by
  match bs, hb, hl, hd, hp with
  | x0 :: x1 :: x2 :: x3 :: rest, hb, hl, hd, hp =>
    obtain rfl := Option.some.inj hd
    have hr : rest.length ≤ 400 := by simp only [List.length_cons] at hl; omega
    have h0 := hb x0 (by simp)
    have h1 := hb x1 (by simp)
    have h2 := hb x2 (by simp)
    have h3 := hb x3 (by simp)
    exact write_c (made_icmp (pay := rest) (d2 := []) (by omega) (by omega) (by simp)) (ser_icmp h0 h1 h2 h3 hr) m_ser_icmp c_ser_icmp (by simp; omega) (by simp) (by simp) (by simp) (by simp; omega)

theorem again_icmp {bs : List Int} (hb : ∀ z ∈ bs, 0 ≤ z ∧ z ≤ 255) {v : Value} {w : World} (h : SB w (fun _ => True) v bs) :
    Calls Tryz.prog 16 #[.string ⟨#[105, 99, 109, 112, 54]⟩, v] w fun e w' => e = .returned (.bool true) ∧ Below w.heap.size w w' := by
  refine again_c (p := pIcmp bs) (by kernel_rfl) (specOf_icmp hb) (fun h4 l hd => ?_) (fun h4 l hd _ hp => write_icmp hb h4 (Option.some.inj hd) hp) alive_c h
  replace hd := Option.some.inj hd
  match bs, hd with
  | x0 :: x1 :: x2 :: x3 :: rest, _ => exact plain_icmp
end Go.Proofs.YtaejicpdaldpiaaGreat
