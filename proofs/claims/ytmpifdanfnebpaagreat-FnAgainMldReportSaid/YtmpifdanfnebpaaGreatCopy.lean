/-
  copy into cells that are known one by one.
-/
import Derived.Test.YtmpifdanfnebpaaGreatVoc
import Derived.Laws.IdiomCopy
namespace Go.Proofs.YtmpifdanfnebpaaGreat
open Go Go.RowKit

theorem wp_copy_cells {o : Oper} {a : Act} {w : World} {K : Act → World → Prop} {Q : Exit → Act → World → Prop} (d s : Operand) (t t' e : TypeId)
    (ho : o.op = .call { callee := .builtin .copy, args := #[d, s], argTypes := #[t, t'] }) (ht : Tryz.prog.underlying t = some (.slice e)) (hsz : (Tryz.prog.info? e).map (·.size) = some 1)
    {b off dLen dCap sLen sCap : Nat} {ad : Addr} {cs : List Value} (hd : a.eval d = .slice (some ⟨b, off, none⟩) dLen dCap) (hs : a.eval s = .slice (some ad) sLen sCap) (hn : cs.length = Nat.min sLen dLen)
    (hsrc : ∀ j v, cs[j]? = some v → w.cell? (ad.add j) = some v) (hc : ∀ j, j < cs.length → (w.cell? ⟨b, off + j, none⟩).isSome = true) (hf : ∀ j, j < cs.length → w.frozen? ⟨b, off + j, none⟩ = false) (h1 : ∀ v ∈ cs, v.oneCell' = true)
    (hK : K (a.put o.dst (goInt cs.length)) (w.setCells b off cs)) : o.wp Tryz.prog a w K Q := by
  have hrun := run_copy_cells (P := Tryz.prog) w t t' o.type e b off dLen dCap ad sLen sCap cs ht hsz hn hsrc hc hf h1
  unfold Oper.wp
  simp [execOp, ho, resolve, invoke, builtin, hd, hs, hrun, Result.andThen]
  exact hK

theorem wpList_copy_cells {ops : Array Oper} {rest : List Oper} {o : Oper} {a : Act} {w : World} {Q : Exit → Act → World → Prop} (hgd : o.guard = none) (d s : Operand) (t t' e : TypeId)
    (ho : o.op = .call { callee := .builtin .copy, args := #[d, s], argTypes := #[t, t'] }) (ht : Tryz.prog.underlying t = some (.slice e)) (hsz : (Tryz.prog.info? e).map (·.size) = some 1)
    {b off dLen dCap sLen sCap : Nat} {ad : Addr} {cs : List Value} (hd : a.eval d = .slice (some ⟨b, off, none⟩) dLen dCap) (hs : a.eval s = .slice (some ad) sLen sCap) (hn : cs.length = Nat.min sLen dLen)
    (hsrc : ∀ j v, cs[j]? = some v → w.cell? (ad.add j) = some v) (hc : ∀ j, j < cs.length → (w.cell? ⟨b, off + j, none⟩).isSome = true) (hf : ∀ j, j < cs.length → w.frozen? ⟨b, off + j, none⟩ = false) (h1 : ∀ v ∈ cs, v.oneCell' = true)
    (hK : wpList Tryz.prog ops Q rest (a.put o.dst (goInt cs.length)) (w.setCells b off cs)) : wpList Tryz.prog ops Q (o :: rest) a w :=
  wpList_plain hgd fun _ hK' => wp_copy_cells d s t t' e ho ht hsz hd hs hn hsrc hc hf h1 (hK' _ _ hK)
end Go.Proofs.YtmpifdanfnebpaaGreat
