/-
  Small things for the making of layers.
-/
import Derived.Test.YtmpifdanfnebpaaGreatWrite
namespace Go.Proofs.YtmpifdanfnebpaaGreat
open Go Go.RowKit

theorem SN.cellsN {w : World} {ok : Nat → Prop} {v : Value} {ns : List Int} {n : Nat} (h : SN w ok v ns) (hl : ns.length = n) (h0 : 0 < n) :
    ∃ b o c, v = .slice (some ⟨b, o, none⟩) n c ∧ b < w.heap.size ∧ ∀ i x, ns[i]? = some x → w.cell? ⟨b, o + i, none⟩ = some (.int .u64 x) := by
  subst hl
  exact h.cells (by intro e; subst e; simp at h0)
theorem SD.cellsN {w : World} {ok : Nat → Prop} {v : Value} {ds : List (List Int)} {n : Nat} (h : SD w ok v ds) (hl : ds.length = n) (h0 : 0 < n) :
    ∃ b o c, v = .slice (some ⟨b, o, none⟩) n c ∧ b < w.heap.size ∧ ∀ i d, ds[i]? = some d → ∃ u, w.cell? ⟨b, o + i, none⟩ = some u ∧ SB w ok u d := by
  subst hl
  exact h.cells (by intro e; subst e; simp at h0)
theorem SD.form {w : World} {ok : Nat → Prop} {v : Value} {ds : List (List Int)} (h : SD w ok v ds) : ∃ p c, v = .slice p ds.length c := by
  obtain ⟨_, _, ⟨p, c, rfl, _⟩, _⟩ := h
  exact ⟨p, c, rfl⟩
theorem SP.form {w : World} {ok : Nat → Prop} {v : Value} {ps : List (List Int × List Int)} (h : SP w ok v ps) : ∃ p c, v = .slice p ps.length c := by
  obtain ⟨_, _, ⟨p, c, rfl, _⟩, _⟩ := h
  exact ⟨p, c, rfl⟩
theorem SB.form {w : World} {ok : Nat → Prop} {v : Value} {ds : List Int} (h : SB w ok v ds) : ∃ p c, v = .slice p ds.length c := by
  obtain ⟨p, c, rfl, _⟩ := h
  exact ⟨p, c, rfl⟩
theorem SameAt.drewN {W w : World} (h : SameAt W w) (n : Nat) : SameAt W (w.drewN n) := h
theorem Holds.drew {w : World} {B D s : Nat} {bs : List Int} (h : Holds w B D s bs) : Holds w.drew B D s bs := h.keeps (Below.drew (Below.refl _ _))
theorem Holds.drewN {w : World} {B D s : Nat} {bs : List Int} (h : Holds w B D s bs) (q : Nat) : Holds (w.drewN q) B D s bs := h.keeps ⟨rfl, rfl, rfl, Nat.le_refl _, fun _ _ => rfl⟩
theorem Below.drewN {B : Nat} {a w : World} (h : Below B a w) (q : Nat) : Below B a (w.drewN q) := ⟨h.os, h.tape, h.output, h.size, h.block⟩

theorem Bare.keeps {w w' : World} {B : Nat} (h : Bare w B) (k : Below w.heap.size w w') : Bare w' B := by
  obtain ⟨h1, h2, h3, h4, h5, h6⟩ := h
  exact ⟨Nat.lt_of_lt_of_le h1 k.size, (k.cell (p := ⟨B, 0, none⟩) h1).trans h2, (k.cell (p := ⟨B, 1, none⟩) h1).trans h3, (k.cell (p := ⟨B, 2, none⟩) h1).trans h4, (k.cell (p := ⟨B, 3, none⟩) h1).trans h5, fun j => (k.frozen (p := ⟨B, j, none⟩) h1).trans (h6 j)⟩
theorem Buf.keeps {w w' : World} {B : Nat} {bs : List Int} (h : Buf w B bs) (k : Below w.heap.size w w') : Buf w' B bs := by
  rcases h with ⟨h1, h2⟩ | ⟨D, s, h⟩
  · exact .inl ⟨h1, h2.keeps k⟩
  · exact .inr ⟨D, s, h.keeps k⟩
theorem buf_alloc {w : World} {B : Nat} {bs : List Int} (h : Buf w B bs) (o : Obj) : Buf (w.alloc o) B bs := h.keeps ((Below.refl _ _).alloc (Nat.le_refl _) _)
theorem Buf.lt {w : World} {B : Nat} {bs : List Int} (h : Buf w B bs) : B < w.heap.size := by
  rcases h with ⟨_, h2⟩ | ⟨D, s, h⟩
  · exact h2.lt
  · exact Nat.lt_trans h.lt h.ltD

theorem bool2uint8_c {t : Bool} {w : World} : Calls Tryz.prog 127 #[.bool t] w fun e w' => e = .returned (.int .u8 (b01 t)) ∧ w = w' := by
  cases t
  · go_enter Tryz.func127, Tryz.ntmps127
    go_wp2
    go_ret
    exact ⟨rfl, rfl⟩
  · go_enter Tryz.func127, Tryz.ntmps127
    go_wp2
    go_ret
    exact ⟨rfl, rfl⟩
end Go.Proofs.YtmpifdanfnebpaaGreat
