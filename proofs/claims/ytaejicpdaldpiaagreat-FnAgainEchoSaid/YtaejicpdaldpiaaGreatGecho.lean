/-
  laws.again of echo.
-/
import Derived.Test.YtaejicpdaldpiaaGreatAgain
import Derived.Test.YtaejicpdaldpiaaGreatAlive
import Derived.Test.YtaejicpdaldpiaaGreatSecho
import Derived.Test.YtaejicpdaldpiaaGreatPecho
import Derived.Test.YtaejicpdaldpiaaGreatWecho
namespace Go.Proofs.YtaejicpdaldpiaaGreat
open Go Go.RowKit

/-- Whether the bytes are plain. -/
def pEcho : List Int → Bool
  | _ :: _ :: _ :: _ :: rest => rest.isEmpty
  | _ => false

theorem write_echo {bs : List Int} (hb : ∀ z ∈ bs, 0 ≤ z ∧ z ≤ 255) (hl : bs.length ≤ 400) {l : Lay} (hd : dEcho bs = some l) (hp : pEcho bs = true) : WriteOf (.string ⟨#[101, 99, 104, 111, 54]⟩) l bs := by
  match bs, hb, hl, hd, hp with
  | x0 :: x1 :: x2 :: x3 :: rest, hb, hl, hd, hp =>
    obtain rfl := Option.some.inj hd
    have hr : rest.length ≤ 400 := by simp only [List.length_cons] at hl; omega
    have h0 := hb x0 (by simp)
    have h1 := hb x1 (by simp)
    have h2 := hb x2 (by simp)
    have h3 := hb x3 (by simp)
    obtain rfl : rest = [] := by simpa [pEcho] using hp
    exact write_c (made_echo (pay := []) (by omega) (by omega)) (ser_echo h0 h1 h2 h3 hr) m_ser_echo c_ser_echo (by simp) (by simp) (by simp) (by simp) (by simp)

theorem again_echo {bs : List Int} (hb : ∀ z ∈ bs, 0 ≤ z ∧ z ≤ 255) {v : Value} {w : World} (h : SB w (fun _ => True) v bs) :
    Calls Tryz.prog 16 #[.string ⟨#[101, 99, 104, 111, 54]⟩, v] w fun e w' => e = .returned (.bool true) ∧ Below w.heap.size w w' := by
  refine again_c (p := pEcho bs) (by kernel_rfl) (specOf_echo hb) (fun h4 l hd => ?_) (fun h4 l hd _ hp => write_echo hb h4 (Option.some.inj hd) hp) alive_c h
  replace hd := Option.some.inj hd
  match bs, hd with
  | x0 :: x1 :: x2 :: x3 :: rest, _ => exact plain_echo
end Go.Proofs.YtaejicpdaldpiaaGreat
