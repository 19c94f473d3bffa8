/-
  What memory holds: a slice of cells, of bytes, of numbers; lists of them; a layer. And that it stays so.
-/
import Derived.Test.YtmpifdanfnebpaaGreatBin
namespace Go.Proofs.YtmpifdanfnebpaaGreat
open Go Go.RowKit

/-- The cells xs lie at p, in a block of which ok holds. -/
def RowAt (w : World) (ok : Nat → Prop) (p : Option Addr) (xs : List Value) : Prop :=
  xs = [] ∨ ∃ b o, p = some ⟨b, o, none⟩ ∧ ok b ∧ b < w.heap.size ∧ ∀ (j : Nat) u, xs[j]? = some u → w.cell? ⟨b, o + j, none⟩ = some u

/-- v is a slice of n elements whose cells are xs. -/
def IsSl (w : World) (ok : Nat → Prop) (v : Value) (n : Nat) (xs : List Value) : Prop :=
  ∃ p c, v = .slice p n c ∧ n ≤ c ∧ c ≤ 9223372036854775807 ∧ (p = none → c = 0) ∧ RowAt w ok p xs

def SB (w : World) (ok : Nat → Prop) (v : Value) (bs : List Int) : Prop := IsSl w ok v bs.length (bs.map (.int .u8))
def SN (w : World) (ok : Nat → Prop) (v : Value) (ns : List Int) : Prop := IsSl w ok v ns.length (ns.map (.int .u64))
def SD (w : World) (ok : Nat → Prop) (v : Value) (ds : List (List Int)) : Prop :=
  ∃ vs : List Value, vs.length = ds.length ∧ IsSl w ok v ds.length vs ∧ ∀ (j : Nat) u d, vs[j]? = some u → ds[j]? = some d → SB w ok u d
/-- The cells of parts. -/
def pcells (vs : List (Value × Value)) : List Value := vs.flatMap fun x => [x.1, x.2]
def SP (w : World) (ok : Nat → Prop) (v : Value) (ps : List (List Int × List Int)) : Prop :=
  ∃ vs : List (Value × Value), vs.length = ps.length ∧ IsSl w ok v ps.length (pcells vs) ∧ ∀ (j : Nat) x p, vs[j]? = some x → ps[j]? = some p → SN w ok x.1 p.1 ∧ SB w ok x.2 p.2

/-- A layer as plain data. -/
structure Lay where
  nums : List Int
  data : List (List Int)
  parts : List (List Int × List Int)
  payload : List Int

def LayOn (w : World) (ok : Nat → Prop) (v : Value) (l : Lay) : Prop :=
  ∃ a b c d, v = .agg #[a, b, c, d] ∧ SN w ok a l.nums ∧ SD w ok b l.data ∧ SP w ok c l.parts ∧ SB w ok d l.payload
abbrev LayIs (w : World) (v : Value) (l : Lay) : Prop := LayOn w (fun _ => True) v l

/-- Of all blocks of which ok holds nothing has turned. -/
structure Keeps (ok : Nat → Prop) (w w' : World) : Prop where
  size : w.heap.size ≤ w'.heap.size
  block : ∀ b, ok b → b < w.heap.size → w'.heap[b]? = w.heap[b]?

theorem Keeps.of_below {ok : Nat → Prop} {w w' : World} (h : Below w.heap.size w w') : Keeps ok w w' := ⟨h.size, fun b _ hb => h.block b hb⟩
theorem Keeps.of_grown {ok : Nat → Prop} {w w' : World} {row : Option Nat} (h : w.grownBy w' row) (hr : ∀ b, ok b → some b ≠ row) : Keeps ok w w' := ⟨h.size, fun b ho hb => h.block b hb (hr b ho)⟩
theorem Keeps.trans {ok : Nat → Prop} {a b c : World} (h : Keeps ok a b) (k : Keeps ok b c) : Keeps ok a c :=
  ⟨Nat.le_trans h.size k.size, fun i ho hi => (k.block i ho (Nat.lt_of_lt_of_le hi h.size)).trans (h.block i ho hi)⟩
theorem Keeps.refl (ok : Nat → Prop) (w : World) : Keeps ok w w := ⟨Nat.le_refl _, fun _ _ _ => rfl⟩
theorem Keeps.alloc {ok : Nat → Prop} {a w : World} (h : Keeps ok a w) (o : Obj) : Keeps ok a (w.alloc o) :=
  h.trans ⟨by simp, fun b _ hb => Below.heap_alloc _ _ _ hb⟩
theorem Keeps.drew {ok : Nat → Prop} {a w : World} (h : Keeps ok a w) : Keeps ok a w.drew := ⟨h.size, h.block⟩
theorem Keeps.drewN {ok : Nat → Prop} {a w : World} (h : Keeps ok a w) (n : Nat) : Keeps ok a (w.drewN n) := ⟨h.size, h.block⟩
theorem Keeps.setCell {ok : Nat → Prop} {a w : World} (h : Keeps ok a w) {p : Addr} (hp : ¬ ok p.block) (u : Value) : Keeps ok a (w.setCell p u) :=
  h.trans ⟨by simp, fun b ho _ => Below.heap_setCell _ _ _ _ (fun e => hp (e ▸ ho))⟩
theorem Keeps.imp {ok ok' : Nat → Prop} {a w : World} (h : Keeps ok a w) (hi : ∀ b, ok' b → ok b) : Keeps ok' a w := ⟨h.size, fun b ho hb => h.block b (hi b ho) hb⟩

theorem RowAt.keeps {w w' : World} {ok : Nat → Prop} {p : Option Addr} {xs : List Value} (h : RowAt w ok p xs) (k : Keeps ok w w') : RowAt w' ok p xs :=
  h.imp id fun ⟨b, o, hp, ho, hb, hc⟩ => ⟨b, o, hp, ho, Nat.lt_of_lt_of_le hb k.size, fun j u hu => (World.cell?_of_block (w := w) (k.block b ho hb)).trans (hc j u hu)⟩
theorem RowAt.imp {w : World} {ok ok' : Nat → Prop} {p : Option Addr} {xs : List Value} (h : RowAt w ok p xs) (hi : ∀ b, b < w.heap.size → ok b → ok' b) : RowAt w ok' p xs :=
  Or.imp id (fun ⟨b, o, hp, ho, hb, hc⟩ => ⟨b, o, hp, hi b hb ho, hb, hc⟩) h
theorem IsSl.keeps {w w' : World} {ok : Nat → Prop} {v : Value} {n : Nat} {xs : List Value} (h : IsSl w ok v n xs) (k : Keeps ok w w') : IsSl w' ok v n xs :=
  let ⟨p, c, h1, h2, h3, h4, h5⟩ := h
  ⟨p, c, h1, h2, h3, h4, h5.keeps k⟩
theorem IsSl.imp {w : World} {ok ok' : Nat → Prop} {v : Value} {n : Nat} {xs : List Value} (h : IsSl w ok v n xs) (hi : ∀ b, b < w.heap.size → ok b → ok' b) : IsSl w ok' v n xs :=
  let ⟨p, c, h1, h2, h3, h4, h5⟩ := h
  ⟨p, c, h1, h2, h3, h4, h5.imp hi⟩
theorem SB.keeps {w w' : World} {ok : Nat → Prop} {v : Value} {bs : List Int} (h : SB w ok v bs) (k : Keeps ok w w') : SB w' ok v bs := IsSl.keeps h k
theorem SN.keeps {w w' : World} {ok : Nat → Prop} {v : Value} {bs : List Int} (h : SN w ok v bs) (k : Keeps ok w w') : SN w' ok v bs := IsSl.keeps h k
theorem SB.imp {w : World} {ok ok' : Nat → Prop} {v : Value} {bs : List Int} (h : SB w ok v bs) (hi : ∀ b, b < w.heap.size → ok b → ok' b) : SB w ok' v bs := IsSl.imp h hi
theorem SN.imp {w : World} {ok ok' : Nat → Prop} {v : Value} {bs : List Int} (h : SN w ok v bs) (hi : ∀ b, b < w.heap.size → ok b → ok' b) : SN w ok' v bs := IsSl.imp h hi
theorem SD.keeps {w w' : World} {ok : Nat → Prop} {v : Value} {ds : List (List Int)} (h : SD w ok v ds) (k : Keeps ok w w') : SD w' ok v ds :=
  let ⟨vs, h1, h2, h3⟩ := h
  ⟨vs, h1, h2.keeps k, fun j u d hu hd => (h3 j u d hu hd).keeps k⟩
theorem SD.imp {w : World} {ok ok' : Nat → Prop} {v : Value} {ds : List (List Int)} (h : SD w ok v ds) (hi : ∀ b, b < w.heap.size → ok b → ok' b) : SD w ok' v ds :=
  let ⟨vs, h1, h2, h3⟩ := h
  ⟨vs, h1, h2.imp hi, fun j u d hu hd => (h3 j u d hu hd).imp hi⟩
theorem SP.keeps {w w' : World} {ok : Nat → Prop} {v : Value} {ps : List (List Int × List Int)} (h : SP w ok v ps) (k : Keeps ok w w') : SP w' ok v ps :=
  let ⟨vs, h1, h2, h3⟩ := h
  ⟨vs, h1, h2.keeps k, fun j x p hu hd => ⟨(h3 j x p hu hd).1.keeps k, (h3 j x p hu hd).2.keeps k⟩⟩
theorem SP.imp {w : World} {ok ok' : Nat → Prop} {v : Value} {ps : List (List Int × List Int)} (h : SP w ok v ps) (hi : ∀ b, b < w.heap.size → ok b → ok' b) : SP w ok' v ps :=
  let ⟨vs, h1, h2, h3⟩ := h
  ⟨vs, h1, h2.imp hi, fun j x p hu hd => ⟨(h3 j x p hu hd).1.imp hi, (h3 j x p hu hd).2.imp hi⟩⟩
theorem LayOn.keeps {w w' : World} {ok : Nat → Prop} {v : Value} {l : Lay} (h : LayOn w ok v l) (K : Keeps ok w w') : LayOn w' ok v l :=
  let ⟨a, b, c, d, h1, h2, h3, h4, h5⟩ := h
  ⟨a, b, c, d, h1, h2.keeps K, h3.keeps K, h4.keeps K, h5.keeps K⟩
theorem LayOn.imp {w : World} {ok ok' : Nat → Prop} {v : Value} {l : Lay} (h : LayOn w ok v l) (hi : ∀ b, b < w.heap.size → ok b → ok' b) : LayOn w ok' v l :=
  let ⟨a, b, c, d, h1, h2, h3, h4, h5⟩ := h
  ⟨a, b, c, d, h1, h2.imp hi, h3.imp hi, h4.imp hi, h5.imp hi⟩
theorem LayIs.below {w w' : World} {v : Value} {l : Lay} (h : LayIs w v l) (k : Below w.heap.size w w') : LayIs w' v l := LayOn.keeps h (Keeps.of_below k)

theorem RowAt.nil (w : World) (ok : Nat → Prop) (p : Option Addr) : RowAt w ok p [] := .inl rfl
theorem IsSl.nil (w : World) (ok : Nat → Prop) : IsSl w ok (.slice none 0 0) 0 [] := ⟨none, 0, rfl, Nat.le_refl _, by omega, fun _ => rfl, .inl rfl⟩
theorem SB.nil (w : World) (ok : Nat → Prop) : SB w ok (.slice none 0 0) [] := IsSl.nil w ok
theorem SN.nil (w : World) (ok : Nat → Prop) : SN w ok (.slice none 0 0) [] := IsSl.nil w ok
theorem SD.nil (w : World) (ok : Nat → Prop) : SD w ok (.slice none 0 0) [] := ⟨[], rfl, IsSl.nil w ok, fun _ _ _ h => by simp at h⟩
theorem SP.nil (w : World) (ok : Nat → Prop) : SP w ok (.slice none 0 0) [] := ⟨[], rfl, IsSl.nil w ok, fun _ _ _ h => by simp at h⟩

/-- A whole block as a slice. -/
theorem IsSl.block {w : World} {ok : Nat → Prop} {b : Nat} {cs : Array Value} {e : TypeId} {f : Nat × Nat} (h : w.heap[b]? = some (.cells cs e f)) (ho : ok b) {n : Nat} (hn : n ≤ 9223372036854775807) : IsSl w ok (.slice (some ⟨b, 0, none⟩) n n) n cs.toList := by
  refine ⟨_, _, rfl, Nat.le_refl _, hn, fun h => (by cases h), .inr ⟨b, 0, rfl, ho, (Array.getElem?_eq_some_iff.1 h).1, fun j u hu => ?_⟩⟩
  rw [Nat.zero_add]
  simp only [World.cell?, h]
  simpa using hu

/-- What the call owns as a slice. -/
theorem IsSl.owned {w : World} {base : Nat} {e : TypeId} {size n : Nat} {v : Value} {xs : List Value} (h : w.ownsRow base e size v n xs) : IsSl w (fun b => base ≤ b ∧ v.ownBlock = some b) v n xs := by
  obtain ⟨hl, h⟩ := h
  rcases h with ⟨rfl, rfl⟩ | ⟨g, cap, cur, rfl, hb, hg, hn, hm, hs, ht⟩
  · have : xs = [] := List.eq_nil_of_length_eq_zero (by simpa using hl)
    subst this
    exact IsSl.nil _ _
  · refine ⟨_, _, rfl, hn, by simpa [maxLen] using hm, fun h => (by cases h), .inr ⟨g, 0, rfl, ⟨hb, rfl⟩, (Array.getElem?_eq_some_iff.1 hg).1, fun j u hu => ?_⟩⟩
    rw [Nat.zero_add]
    simp only [World.cell?, hg]
    rw [← ht, List.getElem?_take] at hu
    split at hu
    · simpa using hu
    · cases hu

/-- A part of a slice's cells. -/
theorem RowAt.part {w : World} {ok : Nat → Prop} {b o : Nat} {xs : List Value} (h : RowAt w ok (some ⟨b, o, none⟩) xs) (lo n : Nat) : RowAt w ok (some ⟨b, o + lo, none⟩) ((xs.drop lo).take n) := by
  rcases h with rfl | ⟨b', o', hp, ho, hb, hc⟩
  · exact .inl (by simp)
  · simp only [Option.some.injEq, Addr.mk.injEq, and_true] at hp
    obtain ⟨rfl, rfl⟩ := hp
    refine .inr ⟨b, o + lo, rfl, ho, hb, fun j u hu => ?_⟩
    rw [List.getElem?_take] at hu
    split at hu
    · rw [List.getElem?_drop] at hu
      rw [Nat.add_assoc]
      exact hc _ u hu
    · cases hu

/-- b[lo:hi] of a slice that reads as bytes. -/
theorem SB.from {w : World} {ok : Nat → Prop} {g o c lo hi : Nat} {A : Option Addr} {bs : List Int} (h : RowAt w ok (some ⟨g, o, none⟩) (bs.map (.int .u8))) (hlo : lo ≤ hi) (hhi : hi ≤ bs.length) (hc : bs.length ≤ c) (hm : c ≤ 9223372036854775807)
    (hA : (if c = lo then some (⟨g, o, none⟩ : Addr) else some ⟨g, o + lo, none⟩) = A) : SB w ok (.slice A (hi - lo) (c - lo)) ((bs.drop lo).take (hi - lo)) := by
  have hl : ((bs.drop lo).take (hi - lo)).length = hi - lo := by rw [List.length_take, List.length_drop]; omega
  unfold SB
  rw [hl]
  refine ⟨A, c - lo, rfl, by omega, by omega, fun hn => ?_, ?_⟩
  · subst hA; split at hn <;> cases hn
  · subst hA
    split
    · have : hi - lo = 0 := by omega
      rw [this]
      exact .inl (by simp)
    · have := h.part lo (hi - lo)
      rwa [← List.map_drop, ← List.map_take] at this

theorem SB.tail {w : World} {ok : Nat → Prop} {g o n c k : Nat} {A : Option Addr} {bs : List Int} (h : RowAt w ok (some ⟨g, o, none⟩) (bs.map (.int .u8))) (hn : n = bs.length) (hk : k ≤ n) (hc : n ≤ c) (hm : c ≤ 9223372036854775807)
    (hA : (if c = k then some (⟨g, o, none⟩ : Addr) else some ⟨g, o + k, none⟩) = A) : SB w ok (.slice A (n - k) (c - k)) (bs.drop k) := by
  have := SB.from (hi := n) h hk (by omega) (by omega) hm hA
  rwa [List.take_of_length_le (by rw [List.length_drop]; omega)] at this

theorem heap_last {W : World} {o : Obj} {n : Nat} (h : n = W.heap.size) : (W.alloc o).heap[n]? = some o := by subst h; exact heap_alloc_new W o
theorem heap_drew (W : World) : W.drew.heap = W.heap := rfl
theorem heap_past {W : World} {o x : Obj} {n : Nat} (h : W.heap[n]? = some x) : (W.alloc o).heap[n]? = some x := (heap_alloc_old W o (Array.getElem?_eq_some_iff.1 h).1).trans h

theorem bcell {W w1 : World} (hb : Below W.heap.size W w1) : ∀ b o, b < W.heap.size → w1.cell? ⟨b, o, none⟩ = W.cell? ⟨b, o, none⟩ := fun b o h => hb.cell (p := ⟨b, o, none⟩) h
/-- A cell that was there, behind a new block and a call. -/
theorem cell_keep {w w1 : World} {o : Obj} (hb : Below (w.alloc o).heap.size (w.alloc o) w1) {b j : Nat} {v : Value} (h : w.cell? ⟨b, j, none⟩ = some v) : w1.cell? ⟨b, j, none⟩ = some v := by
  have hl := World.block_lt_of_cell? _ _ h
  rw [hb.cell (p := ⟨b, j, none⟩) (by simp; exact Nat.lt_succ_of_lt hl), World.cell?_alloc_lt w o ⟨b, j, none⟩ hl]
  exact h
theorem cell_new {w w1 : World} {cs : Array Value} {e : TypeId} (hb : Below (w.alloc (.cells cs e)).heap.size (w.alloc (.cells cs e)) w1) (j : Nat) : w1.cell? ⟨w.heap.size, j, none⟩ = cs[j]? := by
  rw [hb.cell (p := ⟨w.heap.size, j, none⟩) (by simp), World.cell?_alloc_new]
theorem frozen_new {w w1 : World} {cs : Array Value} {e : TypeId} (hb : Below (w.alloc (.cells cs e)).heap.size (w.alloc (.cells cs e)) w1) (j : Nat) : w1.frozen? ⟨w.heap.size, j, none⟩ = false := by
  rw [hb.frozen (p := ⟨w.heap.size, j, none⟩) (by simp), World.frozen?_alloc_new]

theorem cells4 {w w1 : World} {a b c d : Value} {e : TypeId} (hb : Below (w.alloc (.cells #[a, b, c, d] e)).heap.size (w.alloc (.cells #[a, b, c, d] e)) w1) :
    w1.cell? ⟨w.heap.size, 0, none⟩ = some a ∧ w1.cell? ⟨w.heap.size, 1, none⟩ = some b ∧ w1.cell? ⟨w.heap.size, 2, none⟩ = some c ∧ w1.cell? ⟨w.heap.size, 3, none⟩ = some d :=
  ⟨cell_new hb 0, cell_new hb 1, cell_new hb 2, cell_new hb 3⟩
theorem frozen4 {w w1 : World} {cs : Array Value} {e : TypeId} (hb : Below (w.alloc (.cells cs e)).heap.size (w.alloc (.cells cs e)) w1) :
    w1.frozen? ⟨w.heap.size, 0, none⟩ = false ∧ w1.frozen? ⟨w.heap.size, 1, none⟩ = false ∧ w1.frozen? ⟨w.heap.size, 2, none⟩ = false ∧ w1.frozen? ⟨w.heap.size, 3, none⟩ = false :=
  ⟨frozen_new hb 0, frozen_new hb 1, frozen_new hb 2, frozen_new hb 3⟩
theorem size_new {w w1 : World} {o : Obj} (hb : Below (w.alloc o).heap.size (w.alloc o) w1) : w.heap.size < w1.heap.size := by
  have := hb.size
  rw [World.size_alloc] at this
  omega
theorem below_new {w w1 : World} {o : Obj} (hb : Below (w.alloc o).heap.size (w.alloc o) w1) : Below w.heap.size w w1 :=
  ((Below.refl w.heap.size w).alloc (Nat.le_refl _) o).trans (hb.mono (by rw [World.size_alloc]; omega))
theorem rowCells {w : World} {ok : Nat → Prop} {g o : Nat} {xs : List Value} (h : RowAt w ok (some ⟨g, o, none⟩) xs) (hx : xs ≠ []) : g < w.heap.size ∧ ∀ (j : Nat) u, xs[j]? = some u → w.cell? ⟨g, o + j, none⟩ = some u := by
  rcases h with h | ⟨b, o', hp, _, hb, hc⟩
  · exact absurd h hx
  · simp only [Option.some.injEq, Addr.mk.injEq, and_true] at hp
    obtain ⟨rfl, rfl⟩ := hp
    exact ⟨hb, hc⟩

theorem Tryz.infoB : (Tryz.prog.info? 5).map (fun i => (i.zero, i.size, i.bytes)) = some (some (.int .u8 0), 1, 1) := by kernel_rfl

set_option maxHeartbeats 400000 in
/-- impl.clone: the same bytes in a block of its own. -/
theorem clone_c {v : Value} {bs : List Int} {w : World} {ok : Nat → Prop} (h : SB w ok v bs) (hn : bs.length ≤ 140737488355328) :
    Calls Tryz.prog 32 #[v] w fun e w' => ∃ p c, e = .returned (.slice p bs.length c) ∧ SB w' (fun b => w.heap.size ≤ b) (.slice p bs.length c) bs ∧ Below w.heap.size w w' := by
  obtain ⟨i0, hi, hz0, hz1, hz2⟩ := info_parts Tryz.infoB
  obtain ⟨p, c, rfl, hnc, hc, hp, hr⟩ := h
  have H := Lib.hid hr
  clear hr
  cases p with
  | none =>
    obtain rfl := hp rfl
    have hb0 : bs.length = 0 := by omega
    obtain rfl := List.eq_nil_of_length_eq_zero hb0
    go_enter Tryz.func32, Tryz.ntmps32
    go_wp2_with (first | (at_builtin; refine wpList_append_own_none rfl _ _ 22 rfl w.heap.size 5 i0 1 Tryz.underlying22 hi (.slice none 0 0) 0 [] rfl (World.ownsRow_nil _ _ _ _) rfl ?_))
    go_ret
    exact ⟨_, _, rfl, SB.nil _ _, Below.refl _ _⟩
  | some ad =>
    go_enter Tryz.func32, Tryz.ntmps32
    go_wp2_with (first | (at_builtin; refine wpList_append_own _ rfl _ _ 22 rfl w.heap.size 5 i0 (.int .u8 0) 1 1 Tryz.underlying22 hi hz0 hz1 hz2 rfl (by decide) (.slice none 0 0) 0 [] rfl (World.ownsRow_nil _ _ _ _) ad bs.length c (bs.map (.int .u8)) rfl (by simp) ?c1 (ints_oneCell .u8 bs) (by unfold maxLen; omega) (by omega) (Nat.le_refl _) ?_))
    case c1 =>
      intro j u hu
      rcases H.out with h0 | ⟨b, o, he, _, _, hcell⟩
      · rw [h0] at hu; simp at hu
      · simp only [Option.some.injEq] at he
        subst he
        have := hcell j u hu
        unfold Addr.add
        split
        · rename_i hj; subst hj; exact this
        · exact this
    intro v' w1 hown hgrow hnil
    try simp only [Nat.zero_add, List.nil_append] at hown
    have hS := IsSl.owned hown
    obtain ⟨p', c', hv, hrest⟩ := hS
    subst hv
    go_wp2
    go_ret
    refine ⟨p', c', rfl, ?_, (Below.refl _ _).grown hgrow (Nat.le_refl _) (fun k hk => by simp [Value.ownBlock] at hk)⟩
    exact IsSl.imp (n := bs.length) ⟨p', c', rfl, hrest⟩ (fun b _ hb => hb.1)
end Go.Proofs.YtmpifdanfnebpaaGreat
