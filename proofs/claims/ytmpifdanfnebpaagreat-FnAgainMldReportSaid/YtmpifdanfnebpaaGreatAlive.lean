/-
  laws.alive.
-/
import Derived.Test.YtmpifdanfnebpaaGreatLaw
import Derived.Test.YtmpifdanfnebpaaGreatRrmcp
namespace Go.Proofs.YtmpifdanfnebpaaGreat
open Go Go.RowKit

set_option maxRecDepth 100000 in
theorem alive_c : AliveOf := by
  intro w
  have hL : List.length [(6 : Int), 0, 255, 7] = 4 := rfl
  go_enter Tryz.func10, Tryz.ntmps10
  go_wp2_with (go_at_call 26; refine (impl_rmcp (bs := [6, 0, 255, 7]) (by simp) (by simp) _ _ (IsSl.block (n := 4) (cs := #[.int .u8 6, .int .u8 0, .int .u8 255, .int .u8 7]) (e := 5) (f := (0, 0)) (by (try simp only [heap_drew]); repeat (first | (with_reducible refine heap_last ?_; focus (simp; done)) | with_reducible refine heap_past ?_)) trivial (by omega))).mono ?_; rintro e2 w2 ⟨hb2, ⟨hr, -⟩ | ⟨l, u, hr, rfl, hu⟩⟩; cases hr; obtain rfl := Option.some.inj hr; have hu' : LayIs w2 u ⟨[6, 255, 0, 7], [], [], []⟩ := hu; obtain ⟨a, b, c, d, rfl, ⟨p1, c1, rfl, h1, h2, h3, hrow⟩, ⟨vs, _, ⟨p2, c2, rfl, _⟩, _⟩, ⟨us, _, ⟨p3, c3, rfl, _⟩, _⟩, ⟨p4, c4, rfl, _⟩⟩ := hu'; clear hu; obtain hrow | ⟨g, o, rfl, _, hg, hcell⟩ := hrow; (simp at hrow); have k0 := hcell 0 _ rfl; rw [Nat.add_zero] at k0; have HB := Lib.hid hb2; have L2 := hb2.size; simp only [World.size_alloc] at L2; clear hb2 hcell h3 hr hL; simp only [List.length_cons, List.length_nil, Nat.zero_add, Nat.reduceAdd] at *)
  refine bodyPost_ret (v := .bool true) (by simp only [results, Tryz.results10]; go_simp) rfl ⟨rfl, ?_⟩
  have h0 := below_new HB.out
  exact (by repeat (first | with_reducible assumption | with_reducible refine Below.drew ?_ | with_reducible refine below_drewN' ?_ _ | with_reducible refine Below.alloc ?_ ?_ _ | with_reducible refine Below.setCell ?_ ?_ _ | with_reducible exact Nat.le_refl _ | omega | focus (simp; done) | focus (simp; omega)))
end Go.Proofs.YtmpifdanfnebpaaGreat
