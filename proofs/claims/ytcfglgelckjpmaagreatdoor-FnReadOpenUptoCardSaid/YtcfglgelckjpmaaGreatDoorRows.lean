/-
  NARROWER THAN 'FOR EVERY INPUT', by the rows' own cells (each row's printed sentence says how): FnReadClose: loops, laid · FnReadOpen: loops, laid · FnReadDisposition: loops, laid.
  DERIVED. THE GIVEN ROWS OF THIS SEAT. 3 by the template 'for every input the law returns true; each argument reads behind the call as it read before'; 0 by the template 'total and deterministic' (their statements: YtcfglgelckjpmaaGreatDoorTotals.lean).
  GIVEN WITH THE SEED: the statements are not yours to turn. If you find one false, say at which input.
  Laid BY PROGRAM, IN A SANDBOX (cutbox-rows.mjs): the forced cells as the released guide's own fill.sh prints them over the translation ee7bf1be277e1631… (all of the seat's roots in one cut). By AI agents, Wed Nov 11 2026. No macro, syntax, notation, axiom, sorry.
-/
import Derived.Test.YtcfglgelckjpmaaGreatDoorChecked
import GoSem.PinnedTables
import GoSem.Claim
import GoSem.ClaimJoined
import GoSem.ClaimMapViews
import Derived.JoinedTies
import Derived.KernelRfl
namespace Go.Proofs.YtcfglgelckjpmaaGreatDoor
/- THE CELL 'sum', in the pinned program and in every row, IS THE sha256 OF THE DUMP (.gsa) THAT YtcfglgelckjpmaaGreatDoorProg.lean LOADS. Nothing in Lean hashes anything: it is a label: what it is worth is what the hold of that sum in a sandbox is worth. -/
noncomputable def Tryz.pinned : Pinned := { name := "ytcfglgelckjpmaagreatdoor", sum := "ee7bf1be277e163105f2db228fc7954037b7f73e6cfc4800b3c8ae4e1260d020", checked := Tryz.checked }
namespace Rows
def none {H : Type} : Left H := { results := [], args := [] }

/- WHAT THE LISTED PACKAGE-LEVEL VARIABLES READ AS WHEN THE CALL BEGINS. Each datum BY PROGRAM (the guide's laid-datum.mjs) off the statement by which the dump's own 'gosem.cut.vars' lays the variable. In a bare row this is a premise. The card (YtcfglgelckjpmaaGreatDoorCards.lean) ties it to the program's text. -/
def laid_unicode_utf8_acceptRanges {H : Type} : DataW H := .agg [.agg [.lit (.int .u8 128), .lit (.int .u8 191)], .agg [.lit (.int .u8 160), .lit (.int .u8 191)], .agg [.lit (.int .u8 128), .lit (.int .u8 159)], .agg [.lit (.int .u8 144), .lit (.int .u8 191)], .agg [.lit (.int .u8 128), .lit (.int .u8 143)], .agg [.lit (.int .u8 0), .lit (.int .u8 0)], .agg [.lit (.int .u8 0), .lit (.int .u8 0)], .agg [.lit (.int .u8 0), .lit (.int .u8 0)], .agg [.lit (.int .u8 0), .lit (.int .u8 0)], .agg [.lit (.int .u8 0), .lit (.int .u8 0)], .agg [.lit (.int .u8 0), .lit (.int .u8 0)], .agg [.lit (.int .u8 0), .lit (.int .u8 0)], .agg [.lit (.int .u8 0), .lit (.int .u8 0)], .agg [.lit (.int .u8 0), .lit (.int .u8 0)], .agg [.lit (.int .u8 0), .lit (.int .u8 0)], .agg [.lit (.int .u8 0), .lit (.int .u8 0)]]
def laid_io_EOF {H : Type} : DataW H := .iface "*errors.errorString" (.ptr (.agg [.lit (.string [69, 79, 70])]))
/-- One of Go's own tables, pinned by name: the form's constant. -/
def laid_unicode_utf8_first : DataW Unit := Go.Pinned.utf8First

/-- 'laws.FnReadClose': WHATEVER THE INPUT: true; the input reads as it did. -/
def fnReadCloseSpec : ChangeSpec := { name := "fnReadClose", fn := fun _ => fun
  | [d1, d2, d3] => { results := [.lit (.bool true)], args := [d1, d2, d3] }
  | _ => none }
def fnReadCloseRow : OpenClaim := { program := "ytcfglgelckjpmaagreatdoor", sum := "ee7bf1be277e163105f2db228fc7954037b7f73e6cfc4800b3c8ae4e1260d020", func := "given.example/pub-saddlebag/laws.FnReadClose", spec := "fnReadClose", inPlace := ["math.Float32frombits", "math.Float64frombits", "math.Float32bits", "math.Float64bits", "internal/reflectlite.ValueOf", "internal/reflectlite.Swapper", "(internal/reflectlite.Value).Len"], unfollowed := true, recurses := true, named := ["io.EOF", "encoding/binary.BigEndian", "unicode/utf8.first", "unicode/utf8.acceptRanges"], loops := true, apart := false, laid := [("unicode/utf8.acceptRanges", laid_unicode_utf8_acceptRanges), ("io.EOF", laid_io_EOF), ("unicode/utf8.first", laid_unicode_utf8_first)] }
def FnReadCloseSaid : Prop := fnReadCloseRow.holds Tryz.pinned (OpenSpec.ofChange fnReadCloseSpec)

/-- ITS FALSE NEIGHBOUR: 'it returns false'. Refute it at one input. -/
def fnReadCloseWrong : ChangeSpec := { name := "fnReadClose", fn := fun _ => fun
  | [d1, d2, d3] => { results := [.lit (.bool false)], args := [d1, d2, d3] }
  | _ => none }
def FnReadCloseWrongFalsely : Prop := fnReadCloseRow.holds Tryz.pinned (OpenSpec.ofChange fnReadCloseWrong)

/-- 'laws.FnReadOpen': WHATEVER THE INPUT: true; the input reads as it did. -/
def fnReadOpenSpec : ChangeSpec := { name := "fnReadOpen", fn := fun _ => fun
  | [d1, d2, d3] => { results := [.lit (.bool true)], args := [d1, d2, d3] }
  | _ => none }
def fnReadOpenRow : OpenClaim := { program := "ytcfglgelckjpmaagreatdoor", sum := "ee7bf1be277e163105f2db228fc7954037b7f73e6cfc4800b3c8ae4e1260d020", func := "given.example/pub-saddlebag/laws.FnReadOpen", spec := "fnReadOpen", inPlace := ["math.Float32frombits", "math.Float64frombits", "math.Float32bits", "math.Float64bits", "internal/reflectlite.ValueOf", "internal/reflectlite.Swapper", "(internal/reflectlite.Value).Len"], unfollowed := true, recurses := true, named := ["io.EOF", "encoding/binary.BigEndian", "unicode/utf8.first", "unicode/utf8.acceptRanges"], loops := true, apart := false, laid := [("unicode/utf8.acceptRanges", laid_unicode_utf8_acceptRanges), ("io.EOF", laid_io_EOF), ("unicode/utf8.first", laid_unicode_utf8_first)] }
def FnReadOpenSaid : Prop := fnReadOpenRow.holds Tryz.pinned (OpenSpec.ofChange fnReadOpenSpec)

/-- ITS FALSE NEIGHBOUR: 'it returns false'. Refute it at one input. -/
def fnReadOpenWrong : ChangeSpec := { name := "fnReadOpen", fn := fun _ => fun
  | [d1, d2, d3] => { results := [.lit (.bool false)], args := [d1, d2, d3] }
  | _ => none }
def FnReadOpenWrongFalsely : Prop := fnReadOpenRow.holds Tryz.pinned (OpenSpec.ofChange fnReadOpenWrong)

/-- 'laws.FnReadDisposition': WHATEVER THE INPUT: true; the input reads as it did. -/
def fnReadDispositionSpec : ChangeSpec := { name := "fnReadDisposition", fn := fun _ => fun
  | [d1, d2, d3] => { results := [.lit (.bool true)], args := [d1, d2, d3] }
  | _ => none }
def fnReadDispositionRow : OpenClaim := { program := "ytcfglgelckjpmaagreatdoor", sum := "ee7bf1be277e163105f2db228fc7954037b7f73e6cfc4800b3c8ae4e1260d020", func := "given.example/pub-saddlebag/laws.FnReadDisposition", spec := "fnReadDisposition", inPlace := ["math.Float32frombits", "math.Float64frombits", "math.Float32bits", "math.Float64bits", "internal/reflectlite.ValueOf", "internal/reflectlite.Swapper", "(internal/reflectlite.Value).Len"], unfollowed := true, recurses := true, named := ["io.EOF", "encoding/binary.BigEndian", "unicode/utf8.first", "unicode/utf8.acceptRanges"], loops := true, apart := false, laid := [("unicode/utf8.acceptRanges", laid_unicode_utf8_acceptRanges), ("io.EOF", laid_io_EOF), ("unicode/utf8.first", laid_unicode_utf8_first)] }
def FnReadDispositionSaid : Prop := fnReadDispositionRow.holds Tryz.pinned (OpenSpec.ofChange fnReadDispositionSpec)

/-- ITS FALSE NEIGHBOUR: 'it returns false'. Refute it at one input. -/
def fnReadDispositionWrong : ChangeSpec := { name := "fnReadDisposition", fn := fun _ => fun
  | [d1, d2, d3] => { results := [.lit (.bool false)], args := [d1, d2, d3] }
  | _ => none }
def FnReadDispositionWrongFalsely : Prop := fnReadDispositionRow.holds Tryz.pinned (OpenSpec.ofChange fnReadDispositionWrong)

/- THE SECOND FORM. 'bulk': how many values and letters a reading holds, each counted each time it is reached (what is shared counts as often as it is met; a slice's spare places count too). A statement '..UptoSaid' is the law's where the arguments, and the package variables that the reading takes, are together of bulk at most 1048576: NARROWER than '..Said'. Prove '..Said' where nothing that the law and all that it calls make is longer than what came in: it says more and counts as full. Else prove '..UptoSaid'. A law counts once. -/
mutual
def uptoBulk {H : Type} : DataW H → Nat
  | .lit (.string bytes) => bytes.length + 1
  | .lit _ => 1
  | .nil => 1
  | .ptr d => uptoBulk d + 1
  | .slice elems spare => uptoBulkAll elems + uptoBulkAll spare + 1
  | .agg parts => uptoBulkAll parts + 1
  | .iface _ d => uptoBulk d + 1
  | .map entries => uptoBulkEntries entries + 1
  | .held _ => 1
def uptoBulkAll {H : Type} : List (DataW H) → Nat
  | [] => 0
  | d :: r => uptoBulk d + uptoBulkAll r
def uptoBulkEntries {H : Type} : List (Lit × DataW H) → Nat
  | [] => 0
  | x :: r => uptoBulkEntry x + uptoBulkEntries r
def uptoBulkEntry {H : Type} : Lit × DataW H → Nat
  | (.string bytes, d) => bytes.length + uptoBulk d + 1
  | (_, d) => uptoBulk d + 1
 end
def uptoSmall : (H : Type) → List (DataW H) → Bool := fun _ ds => decide (uptoBulkAll ds ≤ 1048576)
def OpenSpec.upto (s : _root_.Go.ChangeSpec) : _root_.Go.OpenSpec := { _root_.Go.OpenSpec.ofChange s with cond := some uptoSmall }

/-- 'laws.FnReadClose', WHERE WHAT IT READS IS OF BULK AT MOST 1048576: true; the input reads as it did. -/
def fnReadCloseUptoRow : OpenClaim := { program := "ytcfglgelckjpmaagreatdoor", sum := "ee7bf1be277e163105f2db228fc7954037b7f73e6cfc4800b3c8ae4e1260d020", func := "given.example/pub-saddlebag/laws.FnReadClose", spec := "fnReadClose", inPlace := ["math.Float32frombits", "math.Float64frombits", "math.Float32bits", "math.Float64bits", "internal/reflectlite.ValueOf", "internal/reflectlite.Swapper", "(internal/reflectlite.Value).Len"], unfollowed := true, recurses := true, named := ["io.EOF", "encoding/binary.BigEndian", "unicode/utf8.first", "unicode/utf8.acceptRanges"], loops := true, apart := false, laid := [("unicode/utf8.acceptRanges", laid_unicode_utf8_acceptRanges), ("io.EOF", laid_io_EOF), ("unicode/utf8.first", laid_unicode_utf8_first)], narrowed := true }
def FnReadCloseUptoSaid : Prop := fnReadCloseUptoRow.holds Tryz.pinned (OpenSpec.upto fnReadCloseSpec)

/-- 'laws.FnReadOpen', WHERE WHAT IT READS IS OF BULK AT MOST 1048576: true; the input reads as it did. -/
def fnReadOpenUptoRow : OpenClaim := { program := "ytcfglgelckjpmaagreatdoor", sum := "ee7bf1be277e163105f2db228fc7954037b7f73e6cfc4800b3c8ae4e1260d020", func := "given.example/pub-saddlebag/laws.FnReadOpen", spec := "fnReadOpen", inPlace := ["math.Float32frombits", "math.Float64frombits", "math.Float32bits", "math.Float64bits", "internal/reflectlite.ValueOf", "internal/reflectlite.Swapper", "(internal/reflectlite.Value).Len"], unfollowed := true, recurses := true, named := ["io.EOF", "encoding/binary.BigEndian", "unicode/utf8.first", "unicode/utf8.acceptRanges"], loops := true, apart := false, laid := [("unicode/utf8.acceptRanges", laid_unicode_utf8_acceptRanges), ("io.EOF", laid_io_EOF), ("unicode/utf8.first", laid_unicode_utf8_first)], narrowed := true }
def FnReadOpenUptoSaid : Prop := fnReadOpenUptoRow.holds Tryz.pinned (OpenSpec.upto fnReadOpenSpec)

/-- 'laws.FnReadDisposition', WHERE WHAT IT READS IS OF BULK AT MOST 1048576: true; the input reads as it did. -/
def fnReadDispositionUptoRow : OpenClaim := { program := "ytcfglgelckjpmaagreatdoor", sum := "ee7bf1be277e163105f2db228fc7954037b7f73e6cfc4800b3c8ae4e1260d020", func := "given.example/pub-saddlebag/laws.FnReadDisposition", spec := "fnReadDisposition", inPlace := ["math.Float32frombits", "math.Float64frombits", "math.Float32bits", "math.Float64bits", "internal/reflectlite.ValueOf", "internal/reflectlite.Swapper", "(internal/reflectlite.Value).Len"], unfollowed := true, recurses := true, named := ["io.EOF", "encoding/binary.BigEndian", "unicode/utf8.first", "unicode/utf8.acceptRanges"], loops := true, apart := false, laid := [("unicode/utf8.acceptRanges", laid_unicode_utf8_acceptRanges), ("io.EOF", laid_io_EOF), ("unicode/utf8.first", laid_unicode_utf8_first)], narrowed := true }
def FnReadDispositionUptoSaid : Prop := fnReadDispositionUptoRow.holds Tryz.pinned (OpenSpec.upto fnReadDispositionSpec)

end Rows
end Go.Proofs.YtcfglgelckjpmaaGreatDoor
