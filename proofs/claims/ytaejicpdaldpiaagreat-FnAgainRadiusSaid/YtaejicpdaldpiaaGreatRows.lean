/-
  No cell of these rows narrows 'for every input' (looked for: loops, veiled, ifaces, maps, wideKeys, modest, calm, conditions, laid).
  DERIVED. THE GIVEN ROWS OF THIS SEAT. 13 by the template 'for every input the law returns true; each argument reads behind the call as it read before'; 0 by the template 'total and deterministic' (their statements: YtaejicpdaldpiaaGreatTotals.lean).
  GIVEN WITH THE SEED: the statements are not yours to turn. If you find one false, say at which input.
  Laid BY PROGRAM, IN A SANDBOX (cutbox-rows.mjs): the forced cells as the released guide's own fill.sh prints them over the translation 0e4119bec330a7ae… (all of the seat's roots in one cut). By AI agents, Wed Nov 11 2026. No macro, syntax, notation, axiom, sorry.
-/
import Derived.Test.YtaejicpdaldpiaaGreatChecked
import GoSem.Claim
import GoSem.ClaimJoined
import GoSem.ClaimMapViews
import Derived.JoinedTies
import Derived.KernelRfl
namespace Go.Proofs.YtaejicpdaldpiaaGreat
/- THE CELL 'sum', in the pinned program and in every row, IS THE sha256 OF THE DUMP (.gsa) THAT YtaejicpdaldpiaaGreatProg.lean LOADS. Nothing in Lean hashes anything: it is a label: what it is worth is what the hold of that sum in a sandbox is worth. -/
noncomputable def Tryz.pinned : Pinned := { name := "ytaejicpdaldpiaagreat", sum := "0e4119bec330a7aef94b234d1b018749fc9628da5383f41aed1153137a2ecd14", checked := Tryz.checked }
namespace Rows
def none {H : Type} : Left H := { results := [], args := [] }

/-- 'laws.FnAgainRadius': WHATEVER THE INPUT: true; the input reads as it did. -/
def fnAgainRadiusSpec : ChangeSpec := { name := "fnAgainRadius", fn := fun _ => fun
  | [d] => { results := [.lit (.bool true)], args := [d] }
  | _ => none }
def fnAgainRadiusRow : OpenClaim := { program := "ytaejicpdaldpiaagreat", sum := "0e4119bec330a7aef94b234d1b018749fc9628da5383f41aed1153137a2ecd14", func := "loop.example/pub-g03269/laws.FnAgainRadius", spec := "fnAgainRadius", unfollowed := true, recurses := true, named := ["encoding/binary.BigEndian"], apart := false }
def FnAgainRadiusSaid : Prop := fnAgainRadiusRow.holds Tryz.pinned (OpenSpec.ofChange fnAgainRadiusSpec)

/-- ITS FALSE NEIGHBOUR: 'it returns false'. Refute it at one input. -/
def fnAgainRadiusWrong : ChangeSpec := { name := "fnAgainRadius", fn := fun _ => fun
  | [d] => { results := [.lit (.bool false)], args := [d] }
  | _ => none }
def FnAgainRadiusWrongFalsely : Prop := fnAgainRadiusRow.holds Tryz.pinned (OpenSpec.ofChange fnAgainRadiusWrong)

/-- 'laws.FnAgainRmcp': WHATEVER THE INPUT: true; the input reads as it did. -/
def fnAgainRmcpSpec : ChangeSpec := { name := "fnAgainRmcp", fn := fun _ => fun
  | [d] => { results := [.lit (.bool true)], args := [d] }
  | _ => none }
def fnAgainRmcpRow : OpenClaim := { program := "ytaejicpdaldpiaagreat", sum := "0e4119bec330a7aef94b234d1b018749fc9628da5383f41aed1153137a2ecd14", func := "loop.example/pub-g03269/laws.FnAgainRmcp", spec := "fnAgainRmcp", unfollowed := true, recurses := true, named := ["encoding/binary.BigEndian"], apart := false }
def FnAgainRmcpSaid : Prop := fnAgainRmcpRow.holds Tryz.pinned (OpenSpec.ofChange fnAgainRmcpSpec)

/-- ITS FALSE NEIGHBOUR: 'it returns false'. Refute it at one input. -/
def fnAgainRmcpWrong : ChangeSpec := { name := "fnAgainRmcp", fn := fun _ => fun
  | [d] => { results := [.lit (.bool false)], args := [d] }
  | _ => none }
def FnAgainRmcpWrongFalsely : Prop := fnAgainRmcpRow.holds Tryz.pinned (OpenSpec.ofChange fnAgainRmcpWrong)

/-- 'laws.FnAgainTls': WHATEVER THE INPUT: true; the input reads as it did. -/
def fnAgainTlsSpec : ChangeSpec := { name := "fnAgainTls", fn := fun _ => fun
  | [d] => { results := [.lit (.bool true)], args := [d] }
  | _ => none }
def fnAgainTlsRow : OpenClaim := { program := "ytaejicpdaldpiaagreat", sum := "0e4119bec330a7aef94b234d1b018749fc9628da5383f41aed1153137a2ecd14", func := "loop.example/pub-g03269/laws.FnAgainTls", spec := "fnAgainTls", unfollowed := true, recurses := true, named := ["encoding/binary.BigEndian"], apart := false }
def FnAgainTlsSaid : Prop := fnAgainTlsRow.holds Tryz.pinned (OpenSpec.ofChange fnAgainTlsSpec)

/-- ITS FALSE NEIGHBOUR: 'it returns false'. Refute it at one input. -/
def fnAgainTlsWrong : ChangeSpec := { name := "fnAgainTls", fn := fun _ => fun
  | [d] => { results := [.lit (.bool false)], args := [d] }
  | _ => none }
def FnAgainTlsWrongFalsely : Prop := fnAgainTlsRow.holds Tryz.pinned (OpenSpec.ofChange fnAgainTlsWrong)

/-- 'laws.FnAgainAsf': WHATEVER THE INPUT: true; the input reads as it did. -/
def fnAgainAsfSpec : ChangeSpec := { name := "fnAgainAsf", fn := fun _ => fun
  | [d] => { results := [.lit (.bool true)], args := [d] }
  | _ => none }
def fnAgainAsfRow : OpenClaim := { program := "ytaejicpdaldpiaagreat", sum := "0e4119bec330a7aef94b234d1b018749fc9628da5383f41aed1153137a2ecd14", func := "loop.example/pub-g03269/laws.FnAgainAsf", spec := "fnAgainAsf", unfollowed := true, recurses := true, named := ["encoding/binary.BigEndian"], apart := false }
def FnAgainAsfSaid : Prop := fnAgainAsfRow.holds Tryz.pinned (OpenSpec.ofChange fnAgainAsfSpec)

/-- ITS FALSE NEIGHBOUR: 'it returns false'. Refute it at one input. -/
def fnAgainAsfWrong : ChangeSpec := { name := "fnAgainAsf", fn := fun _ => fun
  | [d] => { results := [.lit (.bool false)], args := [d] }
  | _ => none }
def FnAgainAsfWrongFalsely : Prop := fnAgainAsfRow.holds Tryz.pinned (OpenSpec.ofChange fnAgainAsfWrong)

/-- 'laws.FnAgainAsfPong': WHATEVER THE INPUT: true; the input reads as it did. -/
def fnAgainAsfPongSpec : ChangeSpec := { name := "fnAgainAsfPong", fn := fun _ => fun
  | [d] => { results := [.lit (.bool true)], args := [d] }
  | _ => none }
def fnAgainAsfPongRow : OpenClaim := { program := "ytaejicpdaldpiaagreat", sum := "0e4119bec330a7aef94b234d1b018749fc9628da5383f41aed1153137a2ecd14", func := "loop.example/pub-g03269/laws.FnAgainAsfPong", spec := "fnAgainAsfPong", unfollowed := true, recurses := true, named := ["encoding/binary.BigEndian"], apart := false }
def FnAgainAsfPongSaid : Prop := fnAgainAsfPongRow.holds Tryz.pinned (OpenSpec.ofChange fnAgainAsfPongSpec)

/-- ITS FALSE NEIGHBOUR: 'it returns false'. Refute it at one input. -/
def fnAgainAsfPongWrong : ChangeSpec := { name := "fnAgainAsfPong", fn := fun _ => fun
  | [d] => { results := [.lit (.bool false)], args := [d] }
  | _ => none }
def FnAgainAsfPongWrongFalsely : Prop := fnAgainAsfPongRow.holds Tryz.pinned (OpenSpec.ofChange fnAgainAsfPongWrong)

/-- 'laws.FnAgainDhcp': WHATEVER THE INPUT: true; the input reads as it did. -/
def fnAgainDhcpSpec : ChangeSpec := { name := "fnAgainDhcp", fn := fun _ => fun
  | [d] => { results := [.lit (.bool true)], args := [d] }
  | _ => none }
def fnAgainDhcpRow : OpenClaim := { program := "ytaejicpdaldpiaagreat", sum := "0e4119bec330a7aef94b234d1b018749fc9628da5383f41aed1153137a2ecd14", func := "loop.example/pub-g03269/laws.FnAgainDhcp", spec := "fnAgainDhcp", unfollowed := true, recurses := true, named := ["encoding/binary.BigEndian"], apart := false }
def FnAgainDhcpSaid : Prop := fnAgainDhcpRow.holds Tryz.pinned (OpenSpec.ofChange fnAgainDhcpSpec)

/-- ITS FALSE NEIGHBOUR: 'it returns false'. Refute it at one input. -/
def fnAgainDhcpWrong : ChangeSpec := { name := "fnAgainDhcp", fn := fun _ => fun
  | [d] => { results := [.lit (.bool false)], args := [d] }
  | _ => none }
def FnAgainDhcpWrongFalsely : Prop := fnAgainDhcpRow.holds Tryz.pinned (OpenSpec.ofChange fnAgainDhcpWrong)

/-- 'laws.FnAgainEcho': WHATEVER THE INPUT: true; the input reads as it did. -/
def fnAgainEchoSpec : ChangeSpec := { name := "fnAgainEcho", fn := fun _ => fun
  | [d] => { results := [.lit (.bool true)], args := [d] }
  | _ => none }
def fnAgainEchoRow : OpenClaim := { program := "ytaejicpdaldpiaagreat", sum := "0e4119bec330a7aef94b234d1b018749fc9628da5383f41aed1153137a2ecd14", func := "loop.example/pub-g03269/laws.FnAgainEcho", spec := "fnAgainEcho", unfollowed := true, recurses := true, named := ["encoding/binary.BigEndian"], apart := false }
def FnAgainEchoSaid : Prop := fnAgainEchoRow.holds Tryz.pinned (OpenSpec.ofChange fnAgainEchoSpec)

/-- ITS FALSE NEIGHBOUR: 'it returns false'. Refute it at one input. -/
def fnAgainEchoWrong : ChangeSpec := { name := "fnAgainEcho", fn := fun _ => fun
  | [d] => { results := [.lit (.bool false)], args := [d] }
  | _ => none }
def FnAgainEchoWrongFalsely : Prop := fnAgainEchoRow.holds Tryz.pinned (OpenSpec.ofChange fnAgainEchoWrong)

/-- 'laws.FnAgainIcmp': WHATEVER THE INPUT: true; the input reads as it did. -/
def fnAgainIcmpSpec : ChangeSpec := { name := "fnAgainIcmp", fn := fun _ => fun
  | [d] => { results := [.lit (.bool true)], args := [d] }
  | _ => none }
def fnAgainIcmpRow : OpenClaim := { program := "ytaejicpdaldpiaagreat", sum := "0e4119bec330a7aef94b234d1b018749fc9628da5383f41aed1153137a2ecd14", func := "loop.example/pub-g03269/laws.FnAgainIcmp", spec := "fnAgainIcmp", unfollowed := true, recurses := true, named := ["encoding/binary.BigEndian"], apart := false }
def FnAgainIcmpSaid : Prop := fnAgainIcmpRow.holds Tryz.pinned (OpenSpec.ofChange fnAgainIcmpSpec)

/-- ITS FALSE NEIGHBOUR: 'it returns false'. Refute it at one input. -/
def fnAgainIcmpWrong : ChangeSpec := { name := "fnAgainIcmp", fn := fun _ => fun
  | [d] => { results := [.lit (.bool false)], args := [d] }
  | _ => none }
def FnAgainIcmpWrongFalsely : Prop := fnAgainIcmpRow.holds Tryz.pinned (OpenSpec.ofChange fnAgainIcmpWrong)

/-- 'laws.FnAgainMld1Done': WHATEVER THE INPUT: true; the input reads as it did. -/
def fnAgainMld1DoneSpec : ChangeSpec := { name := "fnAgainMld1Done", fn := fun _ => fun
  | [d] => { results := [.lit (.bool true)], args := [d] }
  | _ => none }
def fnAgainMld1DoneRow : OpenClaim := { program := "ytaejicpdaldpiaagreat", sum := "0e4119bec330a7aef94b234d1b018749fc9628da5383f41aed1153137a2ecd14", func := "loop.example/pub-g03269/laws.FnAgainMld1Done", spec := "fnAgainMld1Done", unfollowed := true, recurses := true, named := ["encoding/binary.BigEndian"], apart := false }
def FnAgainMld1DoneSaid : Prop := fnAgainMld1DoneRow.holds Tryz.pinned (OpenSpec.ofChange fnAgainMld1DoneSpec)

/-- ITS FALSE NEIGHBOUR: 'it returns false'. Refute it at one input. -/
def fnAgainMld1DoneWrong : ChangeSpec := { name := "fnAgainMld1Done", fn := fun _ => fun
  | [d] => { results := [.lit (.bool false)], args := [d] }
  | _ => none }
def FnAgainMld1DoneWrongFalsely : Prop := fnAgainMld1DoneRow.holds Tryz.pinned (OpenSpec.ofChange fnAgainMld1DoneWrong)

/-- 'laws.FnAgainMld1Query': WHATEVER THE INPUT: true; the input reads as it did. -/
def fnAgainMld1QuerySpec : ChangeSpec := { name := "fnAgainMld1Query", fn := fun _ => fun
  | [d] => { results := [.lit (.bool true)], args := [d] }
  | _ => none }
def fnAgainMld1QueryRow : OpenClaim := { program := "ytaejicpdaldpiaagreat", sum := "0e4119bec330a7aef94b234d1b018749fc9628da5383f41aed1153137a2ecd14", func := "loop.example/pub-g03269/laws.FnAgainMld1Query", spec := "fnAgainMld1Query", unfollowed := true, recurses := true, named := ["encoding/binary.BigEndian"], apart := false }
def FnAgainMld1QuerySaid : Prop := fnAgainMld1QueryRow.holds Tryz.pinned (OpenSpec.ofChange fnAgainMld1QuerySpec)

/-- ITS FALSE NEIGHBOUR: 'it returns false'. Refute it at one input. -/
def fnAgainMld1QueryWrong : ChangeSpec := { name := "fnAgainMld1Query", fn := fun _ => fun
  | [d] => { results := [.lit (.bool false)], args := [d] }
  | _ => none }
def FnAgainMld1QueryWrongFalsely : Prop := fnAgainMld1QueryRow.holds Tryz.pinned (OpenSpec.ofChange fnAgainMld1QueryWrong)

/-- 'laws.FnAgainMld1Report': WHATEVER THE INPUT: true; the input reads as it did. -/
def fnAgainMld1ReportSpec : ChangeSpec := { name := "fnAgainMld1Report", fn := fun _ => fun
  | [d] => { results := [.lit (.bool true)], args := [d] }
  | _ => none }
def fnAgainMld1ReportRow : OpenClaim := { program := "ytaejicpdaldpiaagreat", sum := "0e4119bec330a7aef94b234d1b018749fc9628da5383f41aed1153137a2ecd14", func := "loop.example/pub-g03269/laws.FnAgainMld1Report", spec := "fnAgainMld1Report", unfollowed := true, recurses := true, named := ["encoding/binary.BigEndian"], apart := false }
def FnAgainMld1ReportSaid : Prop := fnAgainMld1ReportRow.holds Tryz.pinned (OpenSpec.ofChange fnAgainMld1ReportSpec)

/-- ITS FALSE NEIGHBOUR: 'it returns false'. Refute it at one input. -/
def fnAgainMld1ReportWrong : ChangeSpec := { name := "fnAgainMld1Report", fn := fun _ => fun
  | [d] => { results := [.lit (.bool false)], args := [d] }
  | _ => none }
def FnAgainMld1ReportWrongFalsely : Prop := fnAgainMld1ReportRow.holds Tryz.pinned (OpenSpec.ofChange fnAgainMld1ReportWrong)

/-- 'laws.FnAgainMldQuery': WHATEVER THE INPUT: true; the input reads as it did. -/
def fnAgainMldQuerySpec : ChangeSpec := { name := "fnAgainMldQuery", fn := fun _ => fun
  | [d] => { results := [.lit (.bool true)], args := [d] }
  | _ => none }
def fnAgainMldQueryRow : OpenClaim := { program := "ytaejicpdaldpiaagreat", sum := "0e4119bec330a7aef94b234d1b018749fc9628da5383f41aed1153137a2ecd14", func := "loop.example/pub-g03269/laws.FnAgainMldQuery", spec := "fnAgainMldQuery", unfollowed := true, recurses := true, named := ["encoding/binary.BigEndian"], apart := false }
def FnAgainMldQuerySaid : Prop := fnAgainMldQueryRow.holds Tryz.pinned (OpenSpec.ofChange fnAgainMldQuerySpec)

/-- ITS FALSE NEIGHBOUR: 'it returns false'. Refute it at one input. -/
def fnAgainMldQueryWrong : ChangeSpec := { name := "fnAgainMldQuery", fn := fun _ => fun
  | [d] => { results := [.lit (.bool false)], args := [d] }
  | _ => none }
def FnAgainMldQueryWrongFalsely : Prop := fnAgainMldQueryRow.holds Tryz.pinned (OpenSpec.ofChange fnAgainMldQueryWrong)

/-- 'laws.FnAgainMldReport': WHATEVER THE INPUT: true; the input reads as it did. -/
def fnAgainMldReportSpec : ChangeSpec := { name := "fnAgainMldReport", fn := fun _ => fun
  | [d] => { results := [.lit (.bool true)], args := [d] }
  | _ => none }
def fnAgainMldReportRow : OpenClaim := { program := "ytaejicpdaldpiaagreat", sum := "0e4119bec330a7aef94b234d1b018749fc9628da5383f41aed1153137a2ecd14", func := "loop.example/pub-g03269/laws.FnAgainMldReport", spec := "fnAgainMldReport", unfollowed := true, recurses := true, named := ["encoding/binary.BigEndian"], apart := false }
def FnAgainMldReportSaid : Prop := fnAgainMldReportRow.holds Tryz.pinned (OpenSpec.ofChange fnAgainMldReportSpec)

/-- ITS FALSE NEIGHBOUR: 'it returns false'. Refute it at one input. -/
def fnAgainMldReportWrong : ChangeSpec := { name := "fnAgainMldReport", fn := fun _ => fun
  | [d] => { results := [.lit (.bool false)], args := [d] }
  | _ => none }
def FnAgainMldReportWrongFalsely : Prop := fnAgainMldReportRow.holds Tryz.pinned (OpenSpec.ofChange fnAgainMldReportWrong)

/- THE SECOND FORM. 'bulk': how many values and letters a reading holds, each counted each time it is reached (what is shared counts as often as it is met; a slice's spare places count too). A statement '..UptoSaid' is the law's where the arguments, and the package variables that the reading takes, are together of bulk at most 1048576: NARROWER than '..Said'. Prove '..Said' where nothing that the law and all that it calls make is longer than what came in: it says more and counts as full. Else prove '..UptoSaid'. A law counts once. -/
mutual
def uptoBulk {H : Type} : DataW H → Nat
  | .lit (.string bytes) => bytes.length + 1
  | .lit _ => 1
  | .nil => 1
  | .ptr d => uptoBulk d + 1
  | .slice elems spare => uptoBulkAll elems + uptoBulkAll spare + 1
  | .agg parts => uptoBulkAll parts + 1
  | .iface _ d => uptoBulk d + 1
  | .map entries => uptoBulkEntries entries + 1
  | .held _ => 1
def uptoBulkAll {H : Type} : List (DataW H) → Nat
  | [] => 0
  | d :: r => uptoBulk d + uptoBulkAll r
def uptoBulkEntries {H : Type} : List (Lit × DataW H) → Nat
  | [] => 0
  | x :: r => uptoBulkEntry x + uptoBulkEntries r
def uptoBulkEntry {H : Type} : Lit × DataW H → Nat
  | (.string bytes, d) => bytes.length + uptoBulk d + 1
  | (_, d) => uptoBulk d + 1
 end
def uptoSmall : (H : Type) → List (DataW H) → Bool := fun _ ds => decide (uptoBulkAll ds ≤ 1048576)
def OpenSpec.upto (s : _root_.Go.ChangeSpec) : _root_.Go.OpenSpec := { _root_.Go.OpenSpec.ofChange s with cond := some uptoSmall }

/-- 'laws.FnAgainRadius', WHERE WHAT IT READS IS OF BULK AT MOST 1048576: true; the input reads as it did. -/
def fnAgainRadiusUptoRow : OpenClaim := { program := "ytaejicpdaldpiaagreat", sum := "0e4119bec330a7aef94b234d1b018749fc9628da5383f41aed1153137a2ecd14", func := "loop.example/pub-g03269/laws.FnAgainRadius", spec := "fnAgainRadius", unfollowed := true, recurses := true, named := ["encoding/binary.BigEndian"], apart := false, narrowed := true }
def FnAgainRadiusUptoSaid : Prop := fnAgainRadiusUptoRow.holds Tryz.pinned (OpenSpec.upto fnAgainRadiusSpec)

/-- 'laws.FnAgainRmcp', WHERE WHAT IT READS IS OF BULK AT MOST 1048576: true; the input reads as it did. -/
def fnAgainRmcpUptoRow : OpenClaim := { program := "ytaejicpdaldpiaagreat", sum := "0e4119bec330a7aef94b234d1b018749fc9628da5383f41aed1153137a2ecd14", func := "loop.example/pub-g03269/laws.FnAgainRmcp", spec := "fnAgainRmcp", unfollowed := true, recurses := true, named := ["encoding/binary.BigEndian"], apart := false, narrowed := true }
def FnAgainRmcpUptoSaid : Prop := fnAgainRmcpUptoRow.holds Tryz.pinned (OpenSpec.upto fnAgainRmcpSpec)

/-- 'laws.FnAgainTls', WHERE WHAT IT READS IS OF BULK AT MOST 1048576: true; the input reads as it did. -/
def fnAgainTlsUptoRow : OpenClaim := { program := "ytaejicpdaldpiaagreat", sum := "0e4119bec330a7aef94b234d1b018749fc9628da5383f41aed1153137a2ecd14", func := "loop.example/pub-g03269/laws.FnAgainTls", spec := "fnAgainTls", unfollowed := true, recurses := true, named := ["encoding/binary.BigEndian"], apart := false, narrowed := true }
def FnAgainTlsUptoSaid : Prop := fnAgainTlsUptoRow.holds Tryz.pinned (OpenSpec.upto fnAgainTlsSpec)

/-- 'laws.FnAgainAsf', WHERE WHAT IT READS IS OF BULK AT MOST 1048576: true; the input reads as it did. -/
def fnAgainAsfUptoRow : OpenClaim := { program := "ytaejicpdaldpiaagreat", sum := "0e4119bec330a7aef94b234d1b018749fc9628da5383f41aed1153137a2ecd14", func := "loop.example/pub-g03269/laws.FnAgainAsf", spec := "fnAgainAsf", unfollowed := true, recurses := true, named := ["encoding/binary.BigEndian"], apart := false, narrowed := true }
def FnAgainAsfUptoSaid : Prop := fnAgainAsfUptoRow.holds Tryz.pinned (OpenSpec.upto fnAgainAsfSpec)

/-- 'laws.FnAgainAsfPong', WHERE WHAT IT READS IS OF BULK AT MOST 1048576: true; the input reads as it did. -/
def fnAgainAsfPongUptoRow : OpenClaim := { program := "ytaejicpdaldpiaagreat", sum := "0e4119bec330a7aef94b234d1b018749fc9628da5383f41aed1153137a2ecd14", func := "loop.example/pub-g03269/laws.FnAgainAsfPong", spec := "fnAgainAsfPong", unfollowed := true, recurses := true, named := ["encoding/binary.BigEndian"], apart := false, narrowed := true }
def FnAgainAsfPongUptoSaid : Prop := fnAgainAsfPongUptoRow.holds Tryz.pinned (OpenSpec.upto fnAgainAsfPongSpec)

/-- 'laws.FnAgainDhcp', WHERE WHAT IT READS IS OF BULK AT MOST 1048576: true; the input reads as it did. -/
def fnAgainDhcpUptoRow : OpenClaim := { program := "ytaejicpdaldpiaagreat", sum := "0e4119bec330a7aef94b234d1b018749fc9628da5383f41aed1153137a2ecd14", func := "loop.example/pub-g03269/laws.FnAgainDhcp", spec := "fnAgainDhcp", unfollowed := true, recurses := true, named := ["encoding/binary.BigEndian"], apart := false, narrowed := true }
def FnAgainDhcpUptoSaid : Prop := fnAgainDhcpUptoRow.holds Tryz.pinned (OpenSpec.upto fnAgainDhcpSpec)

/-- 'laws.FnAgainEcho', WHERE WHAT IT READS IS OF BULK AT MOST 1048576: true; the input reads as it did. -/
def fnAgainEchoUptoRow : OpenClaim := { program := "ytaejicpdaldpiaagreat", sum := "0e4119bec330a7aef94b234d1b018749fc9628da5383f41aed1153137a2ecd14", func := "loop.example/pub-g03269/laws.FnAgainEcho", spec := "fnAgainEcho", unfollowed := true, recurses := true, named := ["encoding/binary.BigEndian"], apart := false, narrowed := true }
def FnAgainEchoUptoSaid : Prop := fnAgainEchoUptoRow.holds Tryz.pinned (OpenSpec.upto fnAgainEchoSpec)

/-- 'laws.FnAgainIcmp', WHERE WHAT IT READS IS OF BULK AT MOST 1048576: true; the input reads as it did. -/
def fnAgainIcmpUptoRow : OpenClaim := { program := "ytaejicpdaldpiaagreat", sum := "0e4119bec330a7aef94b234d1b018749fc9628da5383f41aed1153137a2ecd14", func := "loop.example/pub-g03269/laws.FnAgainIcmp", spec := "fnAgainIcmp", unfollowed := true, recurses := true, named := ["encoding/binary.BigEndian"], apart := false, narrowed := true }
def FnAgainIcmpUptoSaid : Prop := fnAgainIcmpUptoRow.holds Tryz.pinned (OpenSpec.upto fnAgainIcmpSpec)

/-- 'laws.FnAgainMld1Done', WHERE WHAT IT READS IS OF BULK AT MOST 1048576: true; the input reads as it did. -/
def fnAgainMld1DoneUptoRow : OpenClaim := { program := "ytaejicpdaldpiaagreat", sum := "0e4119bec330a7aef94b234d1b018749fc9628da5383f41aed1153137a2ecd14", func := "loop.example/pub-g03269/laws.FnAgainMld1Done", spec := "fnAgainMld1Done", unfollowed := true, recurses := true, named := ["encoding/binary.BigEndian"], apart := false, narrowed := true }
def FnAgainMld1DoneUptoSaid : Prop := fnAgainMld1DoneUptoRow.holds Tryz.pinned (OpenSpec.upto fnAgainMld1DoneSpec)

/-- 'laws.FnAgainMld1Query', WHERE WHAT IT READS IS OF BULK AT MOST 1048576: true; the input reads as it did. -/
def fnAgainMld1QueryUptoRow : OpenClaim := { program := "ytaejicpdaldpiaagreat", sum := "0e4119bec330a7aef94b234d1b018749fc9628da5383f41aed1153137a2ecd14", func := "loop.example/pub-g03269/laws.FnAgainMld1Query", spec := "fnAgainMld1Query", unfollowed := true, recurses := true, named := ["encoding/binary.BigEndian"], apart := false, narrowed := true }
def FnAgainMld1QueryUptoSaid : Prop := fnAgainMld1QueryUptoRow.holds Tryz.pinned (OpenSpec.upto fnAgainMld1QuerySpec)

/-- 'laws.FnAgainMld1Report', WHERE WHAT IT READS IS OF BULK AT MOST 1048576: true; the input reads as it did. -/
def fnAgainMld1ReportUptoRow : OpenClaim := { program := "ytaejicpdaldpiaagreat", sum := "0e4119bec330a7aef94b234d1b018749fc9628da5383f41aed1153137a2ecd14", func := "loop.example/pub-g03269/laws.FnAgainMld1Report", spec := "fnAgainMld1Report", unfollowed := true, recurses := true, named := ["encoding/binary.BigEndian"], apart := false, narrowed := true }
def FnAgainMld1ReportUptoSaid : Prop := fnAgainMld1ReportUptoRow.holds Tryz.pinned (OpenSpec.upto fnAgainMld1ReportSpec)

/-- 'laws.FnAgainMldQuery', WHERE WHAT IT READS IS OF BULK AT MOST 1048576: true; the input reads as it did. -/
def fnAgainMldQueryUptoRow : OpenClaim := { program := "ytaejicpdaldpiaagreat", sum := "0e4119bec330a7aef94b234d1b018749fc9628da5383f41aed1153137a2ecd14", func := "loop.example/pub-g03269/laws.FnAgainMldQuery", spec := "fnAgainMldQuery", unfollowed := true, recurses := true, named := ["encoding/binary.BigEndian"], apart := false, narrowed := true }
def FnAgainMldQueryUptoSaid : Prop := fnAgainMldQueryUptoRow.holds Tryz.pinned (OpenSpec.upto fnAgainMldQuerySpec)

/-- 'laws.FnAgainMldReport', WHERE WHAT IT READS IS OF BULK AT MOST 1048576: true; the input reads as it did. -/
def fnAgainMldReportUptoRow : OpenClaim := { program := "ytaejicpdaldpiaagreat", sum := "0e4119bec330a7aef94b234d1b018749fc9628da5383f41aed1153137a2ecd14", func := "loop.example/pub-g03269/laws.FnAgainMldReport", spec := "fnAgainMldReport", unfollowed := true, recurses := true, named := ["encoding/binary.BigEndian"], apart := false, narrowed := true }
def FnAgainMldReportUptoSaid : Prop := fnAgainMldReportUptoRow.holds Tryz.pinned (OpenSpec.upto fnAgainMldReportSpec)

end Rows
end Go.Proofs.YtaejicpdaldpiaaGreat
