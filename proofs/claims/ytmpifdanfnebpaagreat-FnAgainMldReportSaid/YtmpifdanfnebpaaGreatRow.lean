/-
  The bytes that a statement hands in, as a slice that reads as bytes.
-/
import Derived.Test.YtmpifdanfnebpaaGreatVoc
import Derived.JoinedOf
namespace Go.Proofs.YtmpifdanfnebpaaGreat
open Go Go.RowKit

theorem sb_of_row {w : World} {a : Option Addr} {n c : Nat} {z : List Int}
    (h : (a = none ∧ n = 0 ∧ c = 0 ∧ z = []) ∨ ∃ x, a = some x ∧ n ≤ c ∧ c ≤ maxLen ∧ z.length = c ∧ (∀ i, i < z.length → w.cell? (x.add i) = some (.int .u8 (z.getD i 0))) ∧ ∀ n ∈ z, (Lit.int .u8 n).wf = true) :
    ∃ bs : List Int, bs.length = n ∧ SB w (fun _ => True) (.slice a n c) bs ∧ ∀ x ∈ bs, 0 ≤ x ∧ x ≤ 255 := by
  refine ⟨z.take n, ?_⟩
  rcases h with ⟨rfl, rfl, rfl, rfl⟩ | ⟨x, rfl, hnc, hc, hz, hcell, hw⟩
  · exact ⟨rfl, SB.nil _ _, fun x hx => by simp at hx⟩
  · have hl : (z.take n).length = n := by rw [List.length_take]; omega
    refine ⟨hl, ?_, fun y hy => ?_⟩
    · refine ⟨some x, c, by rw [hl], by rw [hl]; exact hnc, hc, fun h => (by cases h), ?_⟩
      by_cases h0 : n = 0
      · subst h0
        exact .inl (by simp)
      · have c0 := hcell 0 (by omega)
        obtain ⟨g, o, sp⟩ := x
        cases sp with
        | some y =>
          exfalso
          simp only [Addr.add, if_true, World.cell?, Option.isSome_some] at c0
          split at c0 <;> cases c0
        | none =>
          refine .inr ⟨g, o, rfl, trivial, World.block_lt_of_cell? _ _ c0, fun j u hu => ?_⟩
          rw [List.getElem?_map, List.getElem?_take] at hu
          split at hu
          · rename_i hj
            have hjz : j < z.length := by omega
            have := hcell j hjz
            rw [List.getElem?_eq_getElem hjz] at hu
            simp only [Option.map_some, Option.some.injEq] at hu
            subst hu
            rw [List.getD_eq_getElem?_getD, List.getElem?_eq_getElem hjz] at this
            unfold Addr.add at this
            split at this
            · rename_i hj0; subst hj0; exact this
            · exact this
          · cases hu
    · have := hw y (List.mem_of_mem_take hy)
      simp [Lit.wf] at this
      exact this

theorem wordsIs {s : String} {l : List Char} (h : s = String.ofList l) : wordsSigns s.toList = wordsSigns l := by rw [h, String.toList_ofList]
set_option maxRecDepth 100000 in
theorem initOrderIs : Tryz.prog.initOrder = "harness ebb82978fd1cf041600902cbf208458e66a87955dbde6f06507ed66d43026554 cut at loop.example/pub-g03269/laws.FnAgainTls loop.example/pub-g03269/laws.FnAgainMldReport" := by kernel_rfl
set_option maxRecDepth 100000 in
theorem mayEnterIs : Tryz.prog.mayEnter = true := by
  unfold Program.mayEnter
  rw [wordsIs (initOrderIs.trans rfl)]
  kernel_rfl
set_option maxRecDepth 100000 in
theorem liftsFinalIs : Tryz.prog.liftsFinal = false := by
  unfold Program.liftsFinal Program.headLifts
  rw [wordsIs (initOrderIs.trans rfl)]
  kernel_rfl
set_option maxRecDepth 100000 in
theorem makeIs {m : Make} (h : m = .cut) : (Tryz.prog.make == some m) = true := by
  subst h
  unfold Program.make
  rw [wordsIs (initOrderIs.trans rfl)]
  kernel_rfl

/-- What the row asks of the program, each by itself. -/
theorem joined_of {P : Program} {f : FuncId} {fn : Func} {s : ChangeSpec} {c : OpenClaim}
    (h1 : (c.wf (OpenSpec.ofChange s)) = true)
    (h2 : (laidOutB P) = true)
    (h3 : (mapsRowed P) = true)
    (h4 : (fn.params.all (P.readableRec ·)) = true)
    (h5 : (namedTie P c.named s.vars) = true)
    (h6 : ((c.stops == [])) = true)
    (h7 : ((P.stops == [])) = true)
    (h8 : ((c.knobs == [])) = true)
    (h9 : ((P.stopKnobs == [])) = true)
    (h10 : ((c.inPlace == P.inPlace f)) = true)
    (h11 : ((c.unfollowed == P.unfollowed f)) = true)
    (h12 : ((c.recurses == P.recurses f)) = true)
    (h13 : ((c.named == P.varsNamed f)) = true)
    (h14 : ((c.maps == (fn.params.toList ++ s.plain.varTypes P).any (P.mapsRec ·))) = true)
    (h15 : ((c.ifaces == (fn.params.toList ++ s.plain.varTypes P).any (P.ifacesRec ·))) = true)
    (h16 : ((c.mapsOut == P.mapsAmong fn.resultTypes.toList)) = true)
    (h17 : ((c.loops == (fn.params.toList ++ s.plain.varTypes P).any (P.loopsFrom ·))) = true)
    (h18 : ((c.wideKeys == (fn.params.toList ++ s.plain.varTypes P ++ fn.resultTypes.toList).any (P.wideKeysFrom ·))) = true)
    (h19 : (s.vars.all (P.varReadable ·)) = true)
    (h20 : (fn.resultTypes.all (fun t => P.readableRec t && decide (t < P.types.size))) = true)
    (h21 : ((c.ifacesOut == fn.resultTypes.toList.any (P.ifacesRec ·))) = true)
    (h22 : ((c.loopsOut == fn.resultTypes.toList.any (P.loopsFrom ·))) = true)
    (h23 : ((c.plainKeys == P.plainKeys)) = true)
    (h24 : (c.shortTexts.isNone) = true)
    (h25 : (P.stopsHeard) = true)
    (h26 : (P.mayEnter) = true)
    (h27 : ((c.lifted == P.liftsFinal)) = true)
    (h28 : ((P.make == some c.make)) = true)
    (h29 : ((c.kinds == (if c.domain.isEmpty then [] else fn.params.toList.map fun t => match P.underlying t with | some (.int k) => some k | _ => none))) = true)
    (h30 : ((c.pinned == c.pinnedBy)) = true)
    (h31 : ((c.veiled == (fn.params.toList ++ s.plain.varTypes P ++ fn.resultTypes.toList).any (P.veiledRec ·))) = true)
    (h32 : (c.veiledFits P fn.params.toList (fn.params.toList ++ s.plain.varTypes P ++ fn.resultTypes.toList)) = true) : joinedFacts P f fn s c = true := by
  unfold joinedFacts
  simp only [Bool.and_eq_true]
  exact ⟨⟨⟨⟨⟨⟨⟨⟨⟨⟨⟨⟨⟨⟨⟨⟨⟨⟨⟨⟨⟨⟨⟨⟨⟨⟨⟨⟨⟨⟨⟨h1, h2⟩, h3⟩, h4⟩, h5⟩, h6⟩, h7⟩, h8⟩, h9⟩, h10⟩, h11⟩, h12⟩, h13⟩, h14⟩, h15⟩, h16⟩, h17⟩, h18⟩, h19⟩, h20⟩, h21⟩, h22⟩, h23⟩, h24⟩, h25⟩, h26⟩, h27⟩, h28⟩, h29⟩, h30⟩, h31⟩, h32⟩
end Go.Proofs.YtmpifdanfnebpaaGreat
