/-
  No cell of these rows narrows 'for every input' (looked for: loops, veiled, ifaces, maps, wideKeys, modest, calm, conditions, laid).
  DERIVED. THE GIVEN ROWS OF THIS SEAT. 16 by the template 'for every input the law returns true; each argument reads behind the call as it read before'; 0 by the template 'total and deterministic' (their statements: YtaofambmajlhmaaTotals.lean).
  GIVEN WITH THE SEED: the statements are not yours to turn. If you find one false, say at which input.
  Laid BY PROGRAM, IN A SANDBOX (cutbox-rows.mjs): the forced cells as the released guide's own fill.sh prints them over the translation 9fe14828b990601b… (all of the seat's roots in one cut). By AI agents, Wed Nov 11 2026. No macro, syntax, notation, axiom, sorry.
-/
import Derived.Test.YtaofambmajlhmaaChecked
import GoSem.Claim
import GoSem.ClaimJoined
import GoSem.ClaimMapViews
import Derived.JoinedTies
import Derived.KernelRfl
namespace Go.Proofs.Ytaofambmajlhmaa
/- THE CELL 'sum', in the pinned program and in every row, IS THE sha256 OF THE DUMP (.gsa) THAT YtaofambmajlhmaaProg.lean LOADS. Nothing in Lean hashes anything: it is a label: what it is worth is what the hold of that sum in a sandbox is worth. -/
noncomputable def Try.pinned : Pinned := { name := "ytaofambmajlhmaa", sum := "9fe14828b990601bdf447dd1fce27f9c5be1665bae859fc083ce14e313e767da", checked := Try.checked }
namespace Rows
def none {H : Type} : Left H := { results := [], args := [] }

/-- 'laws.FnReadAsf': WHATEVER THE INPUT: true; the input reads as it did. -/
def fnReadAsfSpec : ChangeSpec := { name := "fnReadAsf", fn := fun _ => fun
  | [d] => { results := [.lit (.bool true)], args := [d] }
  | _ => none }
def fnReadAsfRow : OpenClaim := { program := "ytaofambmajlhmaa", sum := "9fe14828b990601bdf447dd1fce27f9c5be1665bae859fc083ce14e313e767da", func := "loop.example/pub-g03269/laws.FnReadAsf", spec := "fnReadAsf", unfollowed := true, recurses := true, named := ["encoding/binary.BigEndian"], apart := false }
def FnReadAsfSaid : Prop := fnReadAsfRow.holds Try.pinned (OpenSpec.ofChange fnReadAsfSpec)

/-- ITS FALSE NEIGHBOUR: 'it returns false'. Refute it at one input. -/
def fnReadAsfWrong : ChangeSpec := { name := "fnReadAsf", fn := fun _ => fun
  | [d] => { results := [.lit (.bool false)], args := [d] }
  | _ => none }
def FnReadAsfWrongFalsely : Prop := fnReadAsfRow.holds Try.pinned (OpenSpec.ofChange fnReadAsfWrong)

/-- 'laws.FnReadAsfPong': WHATEVER THE INPUT: true; the input reads as it did. -/
def fnReadAsfPongSpec : ChangeSpec := { name := "fnReadAsfPong", fn := fun _ => fun
  | [d] => { results := [.lit (.bool true)], args := [d] }
  | _ => none }
def fnReadAsfPongRow : OpenClaim := { program := "ytaofambmajlhmaa", sum := "9fe14828b990601bdf447dd1fce27f9c5be1665bae859fc083ce14e313e767da", func := "loop.example/pub-g03269/laws.FnReadAsfPong", spec := "fnReadAsfPong", unfollowed := true, recurses := true, named := ["encoding/binary.BigEndian"], apart := false }
def FnReadAsfPongSaid : Prop := fnReadAsfPongRow.holds Try.pinned (OpenSpec.ofChange fnReadAsfPongSpec)

/-- ITS FALSE NEIGHBOUR: 'it returns false'. Refute it at one input. -/
def fnReadAsfPongWrong : ChangeSpec := { name := "fnReadAsfPong", fn := fun _ => fun
  | [d] => { results := [.lit (.bool false)], args := [d] }
  | _ => none }
def FnReadAsfPongWrongFalsely : Prop := fnReadAsfPongRow.holds Try.pinned (OpenSpec.ofChange fnReadAsfPongWrong)

/-- 'laws.FnReadDhcp': WHATEVER THE INPUT: true; the input reads as it did. -/
def fnReadDhcpSpec : ChangeSpec := { name := "fnReadDhcp", fn := fun _ => fun
  | [d] => { results := [.lit (.bool true)], args := [d] }
  | _ => none }
def fnReadDhcpRow : OpenClaim := { program := "ytaofambmajlhmaa", sum := "9fe14828b990601bdf447dd1fce27f9c5be1665bae859fc083ce14e313e767da", func := "loop.example/pub-g03269/laws.FnReadDhcp", spec := "fnReadDhcp", unfollowed := true, recurses := true, named := ["encoding/binary.BigEndian"], apart := false }
def FnReadDhcpSaid : Prop := fnReadDhcpRow.holds Try.pinned (OpenSpec.ofChange fnReadDhcpSpec)

/-- ITS FALSE NEIGHBOUR: 'it returns false'. Refute it at one input. -/
def fnReadDhcpWrong : ChangeSpec := { name := "fnReadDhcp", fn := fun _ => fun
  | [d] => { results := [.lit (.bool false)], args := [d] }
  | _ => none }
def FnReadDhcpWrongFalsely : Prop := fnReadDhcpRow.holds Try.pinned (OpenSpec.ofChange fnReadDhcpWrong)

/-- 'laws.FnReadEcho': WHATEVER THE INPUT: true; the input reads as it did. -/
def fnReadEchoSpec : ChangeSpec := { name := "fnReadEcho", fn := fun _ => fun
  | [d] => { results := [.lit (.bool true)], args := [d] }
  | _ => none }
def fnReadEchoRow : OpenClaim := { program := "ytaofambmajlhmaa", sum := "9fe14828b990601bdf447dd1fce27f9c5be1665bae859fc083ce14e313e767da", func := "loop.example/pub-g03269/laws.FnReadEcho", spec := "fnReadEcho", unfollowed := true, recurses := true, named := ["encoding/binary.BigEndian"], apart := false }
def FnReadEchoSaid : Prop := fnReadEchoRow.holds Try.pinned (OpenSpec.ofChange fnReadEchoSpec)

/-- ITS FALSE NEIGHBOUR: 'it returns false'. Refute it at one input. -/
def fnReadEchoWrong : ChangeSpec := { name := "fnReadEcho", fn := fun _ => fun
  | [d] => { results := [.lit (.bool false)], args := [d] }
  | _ => none }
def FnReadEchoWrongFalsely : Prop := fnReadEchoRow.holds Try.pinned (OpenSpec.ofChange fnReadEchoWrong)

/-- 'laws.FnReadFragment': WHATEVER THE INPUT: true; the input reads as it did. -/
def fnReadFragmentSpec : ChangeSpec := { name := "fnReadFragment", fn := fun _ => fun
  | [d] => { results := [.lit (.bool true)], args := [d] }
  | _ => none }
def fnReadFragmentRow : OpenClaim := { program := "ytaofambmajlhmaa", sum := "9fe14828b990601bdf447dd1fce27f9c5be1665bae859fc083ce14e313e767da", func := "loop.example/pub-g03269/laws.FnReadFragment", spec := "fnReadFragment", unfollowed := true, recurses := true, named := ["encoding/binary.BigEndian"], apart := false }
def FnReadFragmentSaid : Prop := fnReadFragmentRow.holds Try.pinned (OpenSpec.ofChange fnReadFragmentSpec)

/-- ITS FALSE NEIGHBOUR: 'it returns false'. Refute it at one input. -/
def fnReadFragmentWrong : ChangeSpec := { name := "fnReadFragment", fn := fun _ => fun
  | [d] => { results := [.lit (.bool false)], args := [d] }
  | _ => none }
def FnReadFragmentWrongFalsely : Prop := fnReadFragmentRow.holds Try.pinned (OpenSpec.ofChange fnReadFragmentWrong)

/-- 'laws.FnReadIcmp': WHATEVER THE INPUT: true; the input reads as it did. -/
def fnReadIcmpSpec : ChangeSpec := { name := "fnReadIcmp", fn := fun _ => fun
  | [d] => { results := [.lit (.bool true)], args := [d] }
  | _ => none }
def fnReadIcmpRow : OpenClaim := { program := "ytaofambmajlhmaa", sum := "9fe14828b990601bdf447dd1fce27f9c5be1665bae859fc083ce14e313e767da", func := "loop.example/pub-g03269/laws.FnReadIcmp", spec := "fnReadIcmp", unfollowed := true, recurses := true, named := ["encoding/binary.BigEndian"], apart := false }
def FnReadIcmpSaid : Prop := fnReadIcmpRow.holds Try.pinned (OpenSpec.ofChange fnReadIcmpSpec)

/-- ITS FALSE NEIGHBOUR: 'it returns false'. Refute it at one input. -/
def fnReadIcmpWrong : ChangeSpec := { name := "fnReadIcmp", fn := fun _ => fun
  | [d] => { results := [.lit (.bool false)], args := [d] }
  | _ => none }
def FnReadIcmpWrongFalsely : Prop := fnReadIcmpRow.holds Try.pinned (OpenSpec.ofChange fnReadIcmpWrong)

/-- 'laws.FnReadMld1Done': WHATEVER THE INPUT: true; the input reads as it did. -/
def fnReadMld1DoneSpec : ChangeSpec := { name := "fnReadMld1Done", fn := fun _ => fun
  | [d] => { results := [.lit (.bool true)], args := [d] }
  | _ => none }
def fnReadMld1DoneRow : OpenClaim := { program := "ytaofambmajlhmaa", sum := "9fe14828b990601bdf447dd1fce27f9c5be1665bae859fc083ce14e313e767da", func := "loop.example/pub-g03269/laws.FnReadMld1Done", spec := "fnReadMld1Done", unfollowed := true, recurses := true, named := ["encoding/binary.BigEndian"], apart := false }
def FnReadMld1DoneSaid : Prop := fnReadMld1DoneRow.holds Try.pinned (OpenSpec.ofChange fnReadMld1DoneSpec)

/-- ITS FALSE NEIGHBOUR: 'it returns false'. Refute it at one input. -/
def fnReadMld1DoneWrong : ChangeSpec := { name := "fnReadMld1Done", fn := fun _ => fun
  | [d] => { results := [.lit (.bool false)], args := [d] }
  | _ => none }
def FnReadMld1DoneWrongFalsely : Prop := fnReadMld1DoneRow.holds Try.pinned (OpenSpec.ofChange fnReadMld1DoneWrong)

/-- 'laws.FnReadMld1Query': WHATEVER THE INPUT: true; the input reads as it did. -/
def fnReadMld1QuerySpec : ChangeSpec := { name := "fnReadMld1Query", fn := fun _ => fun
  | [d] => { results := [.lit (.bool true)], args := [d] }
  | _ => none }
def fnReadMld1QueryRow : OpenClaim := { program := "ytaofambmajlhmaa", sum := "9fe14828b990601bdf447dd1fce27f9c5be1665bae859fc083ce14e313e767da", func := "loop.example/pub-g03269/laws.FnReadMld1Query", spec := "fnReadMld1Query", unfollowed := true, recurses := true, named := ["encoding/binary.BigEndian"], apart := false }
def FnReadMld1QuerySaid : Prop := fnReadMld1QueryRow.holds Try.pinned (OpenSpec.ofChange fnReadMld1QuerySpec)

/-- ITS FALSE NEIGHBOUR: 'it returns false'. Refute it at one input. -/
def fnReadMld1QueryWrong : ChangeSpec := { name := "fnReadMld1Query", fn := fun _ => fun
  | [d] => { results := [.lit (.bool false)], args := [d] }
  | _ => none }
def FnReadMld1QueryWrongFalsely : Prop := fnReadMld1QueryRow.holds Try.pinned (OpenSpec.ofChange fnReadMld1QueryWrong)

/-- 'laws.FnReadMld1Report': WHATEVER THE INPUT: true; the input reads as it did. -/
def fnReadMld1ReportSpec : ChangeSpec := { name := "fnReadMld1Report", fn := fun _ => fun
  | [d] => { results := [.lit (.bool true)], args := [d] }
  | _ => none }
def fnReadMld1ReportRow : OpenClaim := { program := "ytaofambmajlhmaa", sum := "9fe14828b990601bdf447dd1fce27f9c5be1665bae859fc083ce14e313e767da", func := "loop.example/pub-g03269/laws.FnReadMld1Report", spec := "fnReadMld1Report", unfollowed := true, recurses := true, named := ["encoding/binary.BigEndian"], apart := false }
def FnReadMld1ReportSaid : Prop := fnReadMld1ReportRow.holds Try.pinned (OpenSpec.ofChange fnReadMld1ReportSpec)

/-- ITS FALSE NEIGHBOUR: 'it returns false'. Refute it at one input. -/
def fnReadMld1ReportWrong : ChangeSpec := { name := "fnReadMld1Report", fn := fun _ => fun
  | [d] => { results := [.lit (.bool false)], args := [d] }
  | _ => none }
def FnReadMld1ReportWrongFalsely : Prop := fnReadMld1ReportRow.holds Try.pinned (OpenSpec.ofChange fnReadMld1ReportWrong)

/-- 'laws.FnReadMldQuery': WHATEVER THE INPUT: true; the input reads as it did. -/
def fnReadMldQuerySpec : ChangeSpec := { name := "fnReadMldQuery", fn := fun _ => fun
  | [d] => { results := [.lit (.bool true)], args := [d] }
  | _ => none }
def fnReadMldQueryRow : OpenClaim := { program := "ytaofambmajlhmaa", sum := "9fe14828b990601bdf447dd1fce27f9c5be1665bae859fc083ce14e313e767da", func := "loop.example/pub-g03269/laws.FnReadMldQuery", spec := "fnReadMldQuery", unfollowed := true, recurses := true, named := ["encoding/binary.BigEndian"], apart := false }
def FnReadMldQuerySaid : Prop := fnReadMldQueryRow.holds Try.pinned (OpenSpec.ofChange fnReadMldQuerySpec)

/-- ITS FALSE NEIGHBOUR: 'it returns false'. Refute it at one input. -/
def fnReadMldQueryWrong : ChangeSpec := { name := "fnReadMldQuery", fn := fun _ => fun
  | [d] => { results := [.lit (.bool false)], args := [d] }
  | _ => none }
def FnReadMldQueryWrongFalsely : Prop := fnReadMldQueryRow.holds Try.pinned (OpenSpec.ofChange fnReadMldQueryWrong)

/-- 'laws.FnReadMldReport': WHATEVER THE INPUT: true; the input reads as it did. -/
def fnReadMldReportSpec : ChangeSpec := { name := "fnReadMldReport", fn := fun _ => fun
  | [d] => { results := [.lit (.bool true)], args := [d] }
  | _ => none }
def fnReadMldReportRow : OpenClaim := { program := "ytaofambmajlhmaa", sum := "9fe14828b990601bdf447dd1fce27f9c5be1665bae859fc083ce14e313e767da", func := "loop.example/pub-g03269/laws.FnReadMldReport", spec := "fnReadMldReport", unfollowed := true, recurses := true, named := ["encoding/binary.BigEndian"], apart := false }
def FnReadMldReportSaid : Prop := fnReadMldReportRow.holds Try.pinned (OpenSpec.ofChange fnReadMldReportSpec)

/-- ITS FALSE NEIGHBOUR: 'it returns false'. Refute it at one input. -/
def fnReadMldReportWrong : ChangeSpec := { name := "fnReadMldReport", fn := fun _ => fun
  | [d] => { results := [.lit (.bool false)], args := [d] }
  | _ => none }
def FnReadMldReportWrongFalsely : Prop := fnReadMldReportRow.holds Try.pinned (OpenSpec.ofChange fnReadMldReportWrong)

/-- 'laws.FnReadModbus': WHATEVER THE INPUT: true; the input reads as it did. -/
def fnReadModbusSpec : ChangeSpec := { name := "fnReadModbus", fn := fun _ => fun
  | [d] => { results := [.lit (.bool true)], args := [d] }
  | _ => none }
def fnReadModbusRow : OpenClaim := { program := "ytaofambmajlhmaa", sum := "9fe14828b990601bdf447dd1fce27f9c5be1665bae859fc083ce14e313e767da", func := "loop.example/pub-g03269/laws.FnReadModbus", spec := "fnReadModbus", unfollowed := true, recurses := true, named := ["encoding/binary.BigEndian"], apart := false }
def FnReadModbusSaid : Prop := fnReadModbusRow.holds Try.pinned (OpenSpec.ofChange fnReadModbusSpec)

/-- ITS FALSE NEIGHBOUR: 'it returns false'. Refute it at one input. -/
def fnReadModbusWrong : ChangeSpec := { name := "fnReadModbus", fn := fun _ => fun
  | [d] => { results := [.lit (.bool false)], args := [d] }
  | _ => none }
def FnReadModbusWrongFalsely : Prop := fnReadModbusRow.holds Try.pinned (OpenSpec.ofChange fnReadModbusWrong)

/-- 'laws.FnReadRadius': WHATEVER THE INPUT: true; the input reads as it did. -/
def fnReadRadiusSpec : ChangeSpec := { name := "fnReadRadius", fn := fun _ => fun
  | [d] => { results := [.lit (.bool true)], args := [d] }
  | _ => none }
def fnReadRadiusRow : OpenClaim := { program := "ytaofambmajlhmaa", sum := "9fe14828b990601bdf447dd1fce27f9c5be1665bae859fc083ce14e313e767da", func := "loop.example/pub-g03269/laws.FnReadRadius", spec := "fnReadRadius", unfollowed := true, recurses := true, named := ["encoding/binary.BigEndian"], apart := false }
def FnReadRadiusSaid : Prop := fnReadRadiusRow.holds Try.pinned (OpenSpec.ofChange fnReadRadiusSpec)

/-- ITS FALSE NEIGHBOUR: 'it returns false'. Refute it at one input. -/
def fnReadRadiusWrong : ChangeSpec := { name := "fnReadRadius", fn := fun _ => fun
  | [d] => { results := [.lit (.bool false)], args := [d] }
  | _ => none }
def FnReadRadiusWrongFalsely : Prop := fnReadRadiusRow.holds Try.pinned (OpenSpec.ofChange fnReadRadiusWrong)

/-- 'laws.FnReadRmcp': WHATEVER THE INPUT: true; the input reads as it did. -/
def fnReadRmcpSpec : ChangeSpec := { name := "fnReadRmcp", fn := fun _ => fun
  | [d] => { results := [.lit (.bool true)], args := [d] }
  | _ => none }
def fnReadRmcpRow : OpenClaim := { program := "ytaofambmajlhmaa", sum := "9fe14828b990601bdf447dd1fce27f9c5be1665bae859fc083ce14e313e767da", func := "loop.example/pub-g03269/laws.FnReadRmcp", spec := "fnReadRmcp", unfollowed := true, recurses := true, named := ["encoding/binary.BigEndian"], apart := false }
def FnReadRmcpSaid : Prop := fnReadRmcpRow.holds Try.pinned (OpenSpec.ofChange fnReadRmcpSpec)

/-- ITS FALSE NEIGHBOUR: 'it returns false'. Refute it at one input. -/
def fnReadRmcpWrong : ChangeSpec := { name := "fnReadRmcp", fn := fun _ => fun
  | [d] => { results := [.lit (.bool false)], args := [d] }
  | _ => none }
def FnReadRmcpWrongFalsely : Prop := fnReadRmcpRow.holds Try.pinned (OpenSpec.ofChange fnReadRmcpWrong)

/-- 'laws.FnReadRouting': WHATEVER THE INPUT: true; the input reads as it did. -/
def fnReadRoutingSpec : ChangeSpec := { name := "fnReadRouting", fn := fun _ => fun
  | [d] => { results := [.lit (.bool true)], args := [d] }
  | _ => none }
def fnReadRoutingRow : OpenClaim := { program := "ytaofambmajlhmaa", sum := "9fe14828b990601bdf447dd1fce27f9c5be1665bae859fc083ce14e313e767da", func := "loop.example/pub-g03269/laws.FnReadRouting", spec := "fnReadRouting", unfollowed := true, recurses := true, named := ["encoding/binary.BigEndian"], apart := false }
def FnReadRoutingSaid : Prop := fnReadRoutingRow.holds Try.pinned (OpenSpec.ofChange fnReadRoutingSpec)

/-- ITS FALSE NEIGHBOUR: 'it returns false'. Refute it at one input. -/
def fnReadRoutingWrong : ChangeSpec := { name := "fnReadRouting", fn := fun _ => fun
  | [d] => { results := [.lit (.bool false)], args := [d] }
  | _ => none }
def FnReadRoutingWrongFalsely : Prop := fnReadRoutingRow.holds Try.pinned (OpenSpec.ofChange fnReadRoutingWrong)

/-- 'laws.FnReadTls': WHATEVER THE INPUT: true; the input reads as it did. -/
def fnReadTlsSpec : ChangeSpec := { name := "fnReadTls", fn := fun _ => fun
  | [d] => { results := [.lit (.bool true)], args := [d] }
  | _ => none }
def fnReadTlsRow : OpenClaim := { program := "ytaofambmajlhmaa", sum := "9fe14828b990601bdf447dd1fce27f9c5be1665bae859fc083ce14e313e767da", func := "loop.example/pub-g03269/laws.FnReadTls", spec := "fnReadTls", unfollowed := true, recurses := true, named := ["encoding/binary.BigEndian"], apart := false }
def FnReadTlsSaid : Prop := fnReadTlsRow.holds Try.pinned (OpenSpec.ofChange fnReadTlsSpec)

/-- ITS FALSE NEIGHBOUR: 'it returns false'. Refute it at one input. -/
def fnReadTlsWrong : ChangeSpec := { name := "fnReadTls", fn := fun _ => fun
  | [d] => { results := [.lit (.bool false)], args := [d] }
  | _ => none }
def FnReadTlsWrongFalsely : Prop := fnReadTlsRow.holds Try.pinned (OpenSpec.ofChange fnReadTlsWrong)

/- THE SECOND FORM. 'bulk': how many values and letters a reading holds, each counted each time it is reached (what is shared counts as often as it is met; a slice's spare places count too). A statement '..UptoSaid' is the law's where the arguments, and the package variables that the reading takes, are together of bulk at most 1048576: NARROWER than '..Said'. Prove '..Said' where nothing that the law and all that it calls make is longer than what came in: it says more and counts as full. Else prove '..UptoSaid'. A law counts once. -/
mutual
def uptoBulk {H : Type} : DataW H → Nat
  | .lit (.string bytes) => bytes.length + 1
  | .lit _ => 1
  | .nil => 1
  | .ptr d => uptoBulk d + 1
  | .slice elems spare => uptoBulkAll elems + uptoBulkAll spare + 1
  | .agg parts => uptoBulkAll parts + 1
  | .iface _ d => uptoBulk d + 1
  | .map entries => uptoBulkEntries entries + 1
  | .held _ => 1
def uptoBulkAll {H : Type} : List (DataW H) → Nat
  | [] => 0
  | d :: r => uptoBulk d + uptoBulkAll r
def uptoBulkEntries {H : Type} : List (Lit × DataW H) → Nat
  | [] => 0
  | x :: r => uptoBulkEntry x + uptoBulkEntries r
def uptoBulkEntry {H : Type} : Lit × DataW H → Nat
  | (.string bytes, d) => bytes.length + uptoBulk d + 1
  | (_, d) => uptoBulk d + 1
 end
def uptoSmall : (H : Type) → List (DataW H) → Bool := fun _ ds => decide (uptoBulkAll ds ≤ 1048576)
def OpenSpec.upto (s : _root_.Go.ChangeSpec) : _root_.Go.OpenSpec := { _root_.Go.OpenSpec.ofChange s with cond := some uptoSmall }

/-- 'laws.FnReadAsf', WHERE WHAT IT READS IS OF BULK AT MOST 1048576: true; the input reads as it did. -/
def fnReadAsfUptoRow : OpenClaim := { program := "ytaofambmajlhmaa", sum := "9fe14828b990601bdf447dd1fce27f9c5be1665bae859fc083ce14e313e767da", func := "loop.example/pub-g03269/laws.FnReadAsf", spec := "fnReadAsf", unfollowed := true, recurses := true, named := ["encoding/binary.BigEndian"], apart := false, narrowed := true }
def FnReadAsfUptoSaid : Prop := fnReadAsfUptoRow.holds Try.pinned (OpenSpec.upto fnReadAsfSpec)

/-- 'laws.FnReadAsfPong', WHERE WHAT IT READS IS OF BULK AT MOST 1048576: true; the input reads as it did. -/
def fnReadAsfPongUptoRow : OpenClaim := { program := "ytaofambmajlhmaa", sum := "9fe14828b990601bdf447dd1fce27f9c5be1665bae859fc083ce14e313e767da", func := "loop.example/pub-g03269/laws.FnReadAsfPong", spec := "fnReadAsfPong", unfollowed := true, recurses := true, named := ["encoding/binary.BigEndian"], apart := false, narrowed := true }
def FnReadAsfPongUptoSaid : Prop := fnReadAsfPongUptoRow.holds Try.pinned (OpenSpec.upto fnReadAsfPongSpec)

/-- 'laws.FnReadDhcp', WHERE WHAT IT READS IS OF BULK AT MOST 1048576: true; the input reads as it did. -/
def fnReadDhcpUptoRow : OpenClaim := { program := "ytaofambmajlhmaa", sum := "9fe14828b990601bdf447dd1fce27f9c5be1665bae859fc083ce14e313e767da", func := "loop.example/pub-g03269/laws.FnReadDhcp", spec := "fnReadDhcp", unfollowed := true, recurses := true, named := ["encoding/binary.BigEndian"], apart := false, narrowed := true }
def FnReadDhcpUptoSaid : Prop := fnReadDhcpUptoRow.holds Try.pinned (OpenSpec.upto fnReadDhcpSpec)

/-- 'laws.FnReadEcho', WHERE WHAT IT READS IS OF BULK AT MOST 1048576: true; the input reads as it did. -/
def fnReadEchoUptoRow : OpenClaim := { program := "ytaofambmajlhmaa", sum := "9fe14828b990601bdf447dd1fce27f9c5be1665bae859fc083ce14e313e767da", func := "loop.example/pub-g03269/laws.FnReadEcho", spec := "fnReadEcho", unfollowed := true, recurses := true, named := ["encoding/binary.BigEndian"], apart := false, narrowed := true }
def FnReadEchoUptoSaid : Prop := fnReadEchoUptoRow.holds Try.pinned (OpenSpec.upto fnReadEchoSpec)

/-- 'laws.FnReadFragment', WHERE WHAT IT READS IS OF BULK AT MOST 1048576: true; the input reads as it did. -/
def fnReadFragmentUptoRow : OpenClaim := { program := "ytaofambmajlhmaa", sum := "9fe14828b990601bdf447dd1fce27f9c5be1665bae859fc083ce14e313e767da", func := "loop.example/pub-g03269/laws.FnReadFragment", spec := "fnReadFragment", unfollowed := true, recurses := true, named := ["encoding/binary.BigEndian"], apart := false, narrowed := true }
def FnReadFragmentUptoSaid : Prop := fnReadFragmentUptoRow.holds Try.pinned (OpenSpec.upto fnReadFragmentSpec)

/-- 'laws.FnReadIcmp', WHERE WHAT IT READS IS OF BULK AT MOST 1048576: true; the input reads as it did. -/
def fnReadIcmpUptoRow : OpenClaim := { program := "ytaofambmajlhmaa", sum := "9fe14828b990601bdf447dd1fce27f9c5be1665bae859fc083ce14e313e767da", func := "loop.example/pub-g03269/laws.FnReadIcmp", spec := "fnReadIcmp", unfollowed := true, recurses := true, named := ["encoding/binary.BigEndian"], apart := false, narrowed := true }
def FnReadIcmpUptoSaid : Prop := fnReadIcmpUptoRow.holds Try.pinned (OpenSpec.upto fnReadIcmpSpec)

/-- 'laws.FnReadMld1Done', WHERE WHAT IT READS IS OF BULK AT MOST 1048576: true; the input reads as it did. -/
def fnReadMld1DoneUptoRow : OpenClaim := { program := "ytaofambmajlhmaa", sum := "9fe14828b990601bdf447dd1fce27f9c5be1665bae859fc083ce14e313e767da", func := "loop.example/pub-g03269/laws.FnReadMld1Done", spec := "fnReadMld1Done", unfollowed := true, recurses := true, named := ["encoding/binary.BigEndian"], apart := false, narrowed := true }
def FnReadMld1DoneUptoSaid : Prop := fnReadMld1DoneUptoRow.holds Try.pinned (OpenSpec.upto fnReadMld1DoneSpec)

/-- 'laws.FnReadMld1Query', WHERE WHAT IT READS IS OF BULK AT MOST 1048576: true; the input reads as it did. -/
def fnReadMld1QueryUptoRow : OpenClaim := { program := "ytaofambmajlhmaa", sum := "9fe14828b990601bdf447dd1fce27f9c5be1665bae859fc083ce14e313e767da", func := "loop.example/pub-g03269/laws.FnReadMld1Query", spec := "fnReadMld1Query", unfollowed := true, recurses := true, named := ["encoding/binary.BigEndian"], apart := false, narrowed := true }
def FnReadMld1QueryUptoSaid : Prop := fnReadMld1QueryUptoRow.holds Try.pinned (OpenSpec.upto fnReadMld1QuerySpec)

/-- 'laws.FnReadMld1Report', WHERE WHAT IT READS IS OF BULK AT MOST 1048576: true; the input reads as it did. -/
def fnReadMld1ReportUptoRow : OpenClaim := { program := "ytaofambmajlhmaa", sum := "9fe14828b990601bdf447dd1fce27f9c5be1665bae859fc083ce14e313e767da", func := "loop.example/pub-g03269/laws.FnReadMld1Report", spec := "fnReadMld1Report", unfollowed := true, recurses := true, named := ["encoding/binary.BigEndian"], apart := false, narrowed := true }
def FnReadMld1ReportUptoSaid : Prop := fnReadMld1ReportUptoRow.holds Try.pinned (OpenSpec.upto fnReadMld1ReportSpec)

/-- 'laws.FnReadMldQuery', WHERE WHAT IT READS IS OF BULK AT MOST 1048576: true; the input reads as it did. -/
def fnReadMldQueryUptoRow : OpenClaim := { program := "ytaofambmajlhmaa", sum := "9fe14828b990601bdf447dd1fce27f9c5be1665bae859fc083ce14e313e767da", func := "loop.example/pub-g03269/laws.FnReadMldQuery", spec := "fnReadMldQuery", unfollowed := true, recurses := true, named := ["encoding/binary.BigEndian"], apart := false, narrowed := true }
def FnReadMldQueryUptoSaid : Prop := fnReadMldQueryUptoRow.holds Try.pinned (OpenSpec.upto fnReadMldQuerySpec)

/-- 'laws.FnReadMldReport', WHERE WHAT IT READS IS OF BULK AT MOST 1048576: true; the input reads as it did. -/
def fnReadMldReportUptoRow : OpenClaim := { program := "ytaofambmajlhmaa", sum := "9fe14828b990601bdf447dd1fce27f9c5be1665bae859fc083ce14e313e767da", func := "loop.example/pub-g03269/laws.FnReadMldReport", spec := "fnReadMldReport", unfollowed := true, recurses := true, named := ["encoding/binary.BigEndian"], apart := false, narrowed := true }
def FnReadMldReportUptoSaid : Prop := fnReadMldReportUptoRow.holds Try.pinned (OpenSpec.upto fnReadMldReportSpec)

/-- 'laws.FnReadModbus', WHERE WHAT IT READS IS OF BULK AT MOST 1048576: true; the input reads as it did. -/
def fnReadModbusUptoRow : OpenClaim := { program := "ytaofambmajlhmaa", sum := "9fe14828b990601bdf447dd1fce27f9c5be1665bae859fc083ce14e313e767da", func := "loop.example/pub-g03269/laws.FnReadModbus", spec := "fnReadModbus", unfollowed := true, recurses := true, named := ["encoding/binary.BigEndian"], apart := false, narrowed := true }
def FnReadModbusUptoSaid : Prop := fnReadModbusUptoRow.holds Try.pinned (OpenSpec.upto fnReadModbusSpec)

/-- 'laws.FnReadRadius', WHERE WHAT IT READS IS OF BULK AT MOST 1048576: true; the input reads as it did. -/
def fnReadRadiusUptoRow : OpenClaim := { program := "ytaofambmajlhmaa", sum := "9fe14828b990601bdf447dd1fce27f9c5be1665bae859fc083ce14e313e767da", func := "loop.example/pub-g03269/laws.FnReadRadius", spec := "fnReadRadius", unfollowed := true, recurses := true, named := ["encoding/binary.BigEndian"], apart := false, narrowed := true }
def FnReadRadiusUptoSaid : Prop := fnReadRadiusUptoRow.holds Try.pinned (OpenSpec.upto fnReadRadiusSpec)

/-- 'laws.FnReadRmcp', WHERE WHAT IT READS IS OF BULK AT MOST 1048576: true; the input reads as it did. -/
def fnReadRmcpUptoRow : OpenClaim := { program := "ytaofambmajlhmaa", sum := "9fe14828b990601bdf447dd1fce27f9c5be1665bae859fc083ce14e313e767da", func := "loop.example/pub-g03269/laws.FnReadRmcp", spec := "fnReadRmcp", unfollowed := true, recurses := true, named := ["encoding/binary.BigEndian"], apart := false, narrowed := true }
def FnReadRmcpUptoSaid : Prop := fnReadRmcpUptoRow.holds Try.pinned (OpenSpec.upto fnReadRmcpSpec)

/-- 'laws.FnReadRouting', WHERE WHAT IT READS IS OF BULK AT MOST 1048576: true; the input reads as it did. -/
def fnReadRoutingUptoRow : OpenClaim := { program := "ytaofambmajlhmaa", sum := "9fe14828b990601bdf447dd1fce27f9c5be1665bae859fc083ce14e313e767da", func := "loop.example/pub-g03269/laws.FnReadRouting", spec := "fnReadRouting", unfollowed := true, recurses := true, named := ["encoding/binary.BigEndian"], apart := false, narrowed := true }
def FnReadRoutingUptoSaid : Prop := fnReadRoutingUptoRow.holds Try.pinned (OpenSpec.upto fnReadRoutingSpec)

/-- 'laws.FnReadTls', WHERE WHAT IT READS IS OF BULK AT MOST 1048576: true; the input reads as it did. -/
def fnReadTlsUptoRow : OpenClaim := { program := "ytaofambmajlhmaa", sum := "9fe14828b990601bdf447dd1fce27f9c5be1665bae859fc083ce14e313e767da", func := "loop.example/pub-g03269/laws.FnReadTls", spec := "fnReadTls", unfollowed := true, recurses := true, named := ["encoding/binary.BigEndian"], apart := false, narrowed := true }
def FnReadTlsUptoSaid : Prop := fnReadTlsUptoRow.holds Try.pinned (OpenSpec.upto fnReadTlsSpec)

end Rows
end Go.Proofs.Ytaofambmajlhmaa
