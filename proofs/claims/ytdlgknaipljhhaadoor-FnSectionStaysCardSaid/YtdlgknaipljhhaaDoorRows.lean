/-
  NARROWER THAN 'FOR EVERY INPUT', by the rows' own cells (each row's printed sentence says how): FnSectionReads: ifaces, laid · FnSectionSeek: ifaces, laid · FnSectionStays: ifaces, laid · FnExactSection: ifaces, laid · FnSection: ifaces, laid · FnSectionAll: ifaces, laid · FnSectionBad: ifaces, laid.
  DERIVED. THE GIVEN ROWS OF THIS SEAT. 7 by the template 'for every input the law returns true; each argument reads behind the call as it read before'; 0 by the template 'total and deterministic' (their statements: YtdlgknaipljhhaaDoorTotals.lean).
  GIVEN WITH THE SEED: the statements are not yours to turn. If you find one false, say at which input.
  Laid BY PROGRAM, IN A SANDBOX (cutbox-rows.mjs): the forced cells as the released guide's own fill.sh prints them over the translation 5ea2f4ca1466cb16… (all of the seat's roots in one cut). By AI agents, Wed Nov 11 2026. No macro, syntax, notation, axiom, sorry.
-/
import Derived.Test.YtdlgknaipljhhaaDoorChecked
import GoSem.Claim
import GoSem.ClaimJoined
import GoSem.ClaimMapViews
import Derived.JoinedTies
import Derived.KernelRfl
namespace Go.Proofs.YtdlgknaipljhhaaDoor
/- THE CELL 'sum', in the pinned program and in every row, IS THE sha256 OF THE DUMP (.gsa) THAT YtdlgknaipljhhaaDoorProg.lean LOADS. Nothing in Lean hashes anything: it is a label: what it is worth is what the hold of that sum in a sandbox is worth. -/
noncomputable def Tryd.pinned : Pinned := { name := "ytdlgknaipljhhaadoor", sum := "5ea2f4ca1466cb1661f0539ea76ca14ddf08f459641dc1192b25b78b54014990", checked := Tryd.checked }
namespace Rows
def none {H : Type} : Left H := { results := [], args := [] }

/- WHAT THE LISTED PACKAGE-LEVEL VARIABLES READ AS WHEN THE CALL BEGINS. Each datum BY PROGRAM (the guide's laid-datum.mjs) off the statement by which the dump's own 'gosem.cut.vars' lays the variable. In a bare row this is a premise. The card (YtdlgknaipljhhaaDoorCards.lean) ties it to the program's text. -/
def laid_io_ErrShortWrite {H : Type} : DataW H := .iface "*errors.errorString" (.ptr (.agg [.lit (.string [115, 104, 111, 114, 116, 32, 119, 114, 105, 116, 101])]))
def laid_io_ErrShortBuffer {H : Type} : DataW H := .iface "*errors.errorString" (.ptr (.agg [.lit (.string [115, 104, 111, 114, 116, 32, 98, 117, 102, 102, 101, 114])]))
def laid_io_EOF {H : Type} : DataW H := .iface "*errors.errorString" (.ptr (.agg [.lit (.string [69, 79, 70])]))
def laid_io_ErrUnexpectedEOF {H : Type} : DataW H := .iface "*errors.errorString" (.ptr (.agg [.lit (.string [117, 110, 101, 120, 112, 101, 99, 116, 101, 100, 32, 69, 79, 70])]))
def laid_io_errWhence {H : Type} : DataW H := .iface "*errors.errorString" (.ptr (.agg [.lit (.string [83, 101, 101, 107, 58, 32, 105, 110, 118, 97, 108, 105, 100, 32, 119, 104, 101, 110, 99, 101])]))
def laid_io_errOffset {H : Type} : DataW H := .iface "*errors.errorString" (.ptr (.agg [.lit (.string [83, 101, 101, 107, 58, 32, 105, 110, 118, 97, 108, 105, 100, 32, 111, 102, 102, 115, 101, 116])]))
def laid_loop_example_lib_readerscripts_impl_errBroken {H : Type} : DataW H := .iface "*errors.errorString" (.ptr (.agg [.lit (.string [98, 114, 111, 107, 101, 110])]))
def laid_loop_example_lib_readerscripts_impl_errFull {H : Type} : DataW H := .iface "*errors.errorString" (.ptr (.agg [.lit (.string [102, 117, 108, 108])]))

/-- 'laws.FnSectionReads': WHATEVER THE INPUT: true; the input reads as it did. -/
def fnSectionReadsSpec : ChangeSpec := { name := "fnSectionReads", vars := ["loop.example/lib-readerscripts/impl.errBroken", "loop.example/lib-readerscripts/impl.errFull"], fn := fun _ => fun
  | [d, g1, g2] => { results := [.lit (.bool true)], args := [d], vars := [g1, g2] }
  | _ => none }
def fnSectionReadsRow : OpenClaim := { program := "ytdlgknaipljhhaadoor", sum := "5ea2f4ca1466cb1661f0539ea76ca14ddf08f459641dc1192b25b78b54014990", func := "loop.example/lib-readerscripts/laws.FnSectionReads", spec := "fnSectionReads", unfollowed := true, recurses := true, named := ["io.EOF", "loop.example/lib-readerscripts/impl.errBroken", "loop.example/lib-readerscripts/impl.errFull", "io.ErrUnexpectedEOF", "io.ErrShortBuffer", "io.ErrShortWrite", "io.errWhence", "io.errOffset"], ifaces := true, apart := false, laid := [("io.ErrShortWrite", laid_io_ErrShortWrite), ("io.ErrShortBuffer", laid_io_ErrShortBuffer), ("io.EOF", laid_io_EOF), ("io.ErrUnexpectedEOF", laid_io_ErrUnexpectedEOF), ("io.errWhence", laid_io_errWhence), ("io.errOffset", laid_io_errOffset), ("loop.example/lib-readerscripts/impl.errBroken", laid_loop_example_lib_readerscripts_impl_errBroken), ("loop.example/lib-readerscripts/impl.errFull", laid_loop_example_lib_readerscripts_impl_errFull)] }
def FnSectionReadsSaid : Prop := fnSectionReadsRow.holds Tryd.pinned (OpenSpec.ofChange fnSectionReadsSpec)

/-- ITS FALSE NEIGHBOUR: 'it returns false'. Refute it at one input. -/
def fnSectionReadsWrong : ChangeSpec := { name := "fnSectionReads", vars := ["loop.example/lib-readerscripts/impl.errBroken", "loop.example/lib-readerscripts/impl.errFull"], fn := fun _ => fun
  | [d, g1, g2] => { results := [.lit (.bool false)], args := [d], vars := [g1, g2] }
  | _ => none }
def FnSectionReadsWrongFalsely : Prop := fnSectionReadsRow.holds Tryd.pinned (OpenSpec.ofChange fnSectionReadsWrong)

/-- 'laws.FnSectionSeek': WHATEVER THE INPUT: true; the input reads as it did. -/
def fnSectionSeekSpec : ChangeSpec := { name := "fnSectionSeek", vars := ["loop.example/lib-readerscripts/impl.errBroken", "loop.example/lib-readerscripts/impl.errFull"], fn := fun _ => fun
  | [d, g1, g2] => { results := [.lit (.bool true)], args := [d], vars := [g1, g2] }
  | _ => none }
def fnSectionSeekRow : OpenClaim := { program := "ytdlgknaipljhhaadoor", sum := "5ea2f4ca1466cb1661f0539ea76ca14ddf08f459641dc1192b25b78b54014990", func := "loop.example/lib-readerscripts/laws.FnSectionSeek", spec := "fnSectionSeek", unfollowed := true, recurses := true, named := ["io.EOF", "loop.example/lib-readerscripts/impl.errBroken", "loop.example/lib-readerscripts/impl.errFull", "io.ErrUnexpectedEOF", "io.ErrShortBuffer", "io.ErrShortWrite", "io.errWhence", "io.errOffset"], ifaces := true, apart := false, laid := [("io.ErrShortWrite", laid_io_ErrShortWrite), ("io.ErrShortBuffer", laid_io_ErrShortBuffer), ("io.EOF", laid_io_EOF), ("io.ErrUnexpectedEOF", laid_io_ErrUnexpectedEOF), ("io.errWhence", laid_io_errWhence), ("io.errOffset", laid_io_errOffset), ("loop.example/lib-readerscripts/impl.errBroken", laid_loop_example_lib_readerscripts_impl_errBroken), ("loop.example/lib-readerscripts/impl.errFull", laid_loop_example_lib_readerscripts_impl_errFull)] }
def FnSectionSeekSaid : Prop := fnSectionSeekRow.holds Tryd.pinned (OpenSpec.ofChange fnSectionSeekSpec)

/-- ITS FALSE NEIGHBOUR: 'it returns false'. Refute it at one input. -/
def fnSectionSeekWrong : ChangeSpec := { name := "fnSectionSeek", vars := ["loop.example/lib-readerscripts/impl.errBroken", "loop.example/lib-readerscripts/impl.errFull"], fn := fun _ => fun
  | [d, g1, g2] => { results := [.lit (.bool false)], args := [d], vars := [g1, g2] }
  | _ => none }
def FnSectionSeekWrongFalsely : Prop := fnSectionSeekRow.holds Tryd.pinned (OpenSpec.ofChange fnSectionSeekWrong)

/-- 'laws.FnSectionStays': WHATEVER THE INPUT: true; the input reads as it did. -/
def fnSectionStaysSpec : ChangeSpec := { name := "fnSectionStays", vars := ["loop.example/lib-readerscripts/impl.errBroken", "loop.example/lib-readerscripts/impl.errFull"], fn := fun _ => fun
  | [d, g1, g2] => { results := [.lit (.bool true)], args := [d], vars := [g1, g2] }
  | _ => none }
def fnSectionStaysRow : OpenClaim := { program := "ytdlgknaipljhhaadoor", sum := "5ea2f4ca1466cb1661f0539ea76ca14ddf08f459641dc1192b25b78b54014990", func := "loop.example/lib-readerscripts/laws.FnSectionStays", spec := "fnSectionStays", unfollowed := true, recurses := true, named := ["io.EOF", "loop.example/lib-readerscripts/impl.errBroken", "loop.example/lib-readerscripts/impl.errFull", "io.ErrUnexpectedEOF", "io.ErrShortBuffer", "io.ErrShortWrite", "io.errWhence", "io.errOffset"], ifaces := true, apart := false, laid := [("io.ErrShortWrite", laid_io_ErrShortWrite), ("io.ErrShortBuffer", laid_io_ErrShortBuffer), ("io.EOF", laid_io_EOF), ("io.ErrUnexpectedEOF", laid_io_ErrUnexpectedEOF), ("io.errWhence", laid_io_errWhence), ("io.errOffset", laid_io_errOffset), ("loop.example/lib-readerscripts/impl.errBroken", laid_loop_example_lib_readerscripts_impl_errBroken), ("loop.example/lib-readerscripts/impl.errFull", laid_loop_example_lib_readerscripts_impl_errFull)] }
def FnSectionStaysSaid : Prop := fnSectionStaysRow.holds Tryd.pinned (OpenSpec.ofChange fnSectionStaysSpec)

/-- ITS FALSE NEIGHBOUR: 'it returns false'. Refute it at one input. -/
def fnSectionStaysWrong : ChangeSpec := { name := "fnSectionStays", vars := ["loop.example/lib-readerscripts/impl.errBroken", "loop.example/lib-readerscripts/impl.errFull"], fn := fun _ => fun
  | [d, g1, g2] => { results := [.lit (.bool false)], args := [d], vars := [g1, g2] }
  | _ => none }
def FnSectionStaysWrongFalsely : Prop := fnSectionStaysRow.holds Tryd.pinned (OpenSpec.ofChange fnSectionStaysWrong)

/-- 'laws.FnExactSection': WHATEVER THE INPUT: true; the input reads as it did. -/
def fnExactSectionSpec : ChangeSpec := { name := "fnExactSection", vars := ["loop.example/lib-readerscripts/impl.errBroken", "loop.example/lib-readerscripts/impl.errFull"], fn := fun _ => fun
  | [d1, d2, d3, d4, g1, g2] => { results := [.lit (.bool true)], args := [d1, d2, d3, d4], vars := [g1, g2] }
  | _ => none }
def fnExactSectionRow : OpenClaim := { program := "ytdlgknaipljhhaadoor", sum := "5ea2f4ca1466cb1661f0539ea76ca14ddf08f459641dc1192b25b78b54014990", func := "loop.example/lib-readerscripts/laws.FnExactSection", spec := "fnExactSection", unfollowed := true, recurses := true, named := ["io.EOF", "loop.example/lib-readerscripts/impl.errBroken", "loop.example/lib-readerscripts/impl.errFull", "io.ErrUnexpectedEOF", "io.ErrShortBuffer", "io.ErrShortWrite", "io.errWhence", "io.errOffset"], ifaces := true, apart := false, laid := [("io.ErrShortWrite", laid_io_ErrShortWrite), ("io.ErrShortBuffer", laid_io_ErrShortBuffer), ("io.EOF", laid_io_EOF), ("io.ErrUnexpectedEOF", laid_io_ErrUnexpectedEOF), ("io.errWhence", laid_io_errWhence), ("io.errOffset", laid_io_errOffset), ("loop.example/lib-readerscripts/impl.errBroken", laid_loop_example_lib_readerscripts_impl_errBroken), ("loop.example/lib-readerscripts/impl.errFull", laid_loop_example_lib_readerscripts_impl_errFull)] }
def FnExactSectionSaid : Prop := fnExactSectionRow.holds Tryd.pinned (OpenSpec.ofChange fnExactSectionSpec)

/-- ITS FALSE NEIGHBOUR: 'it returns false'. Refute it at one input. -/
def fnExactSectionWrong : ChangeSpec := { name := "fnExactSection", vars := ["loop.example/lib-readerscripts/impl.errBroken", "loop.example/lib-readerscripts/impl.errFull"], fn := fun _ => fun
  | [d1, d2, d3, d4, g1, g2] => { results := [.lit (.bool false)], args := [d1, d2, d3, d4], vars := [g1, g2] }
  | _ => none }
def FnExactSectionWrongFalsely : Prop := fnExactSectionRow.holds Tryd.pinned (OpenSpec.ofChange fnExactSectionWrong)

/-- 'laws.FnSection': WHATEVER THE INPUT: true; the input reads as it did. -/
def fnSectionSpec : ChangeSpec := { name := "fnSection", vars := ["loop.example/lib-readerscripts/impl.errBroken", "loop.example/lib-readerscripts/impl.errFull"], fn := fun _ => fun
  | [d, g1, g2] => { results := [.lit (.bool true)], args := [d], vars := [g1, g2] }
  | _ => none }
def fnSectionRow : OpenClaim := { program := "ytdlgknaipljhhaadoor", sum := "5ea2f4ca1466cb1661f0539ea76ca14ddf08f459641dc1192b25b78b54014990", func := "loop.example/lib-readerscripts/laws.FnSection", spec := "fnSection", unfollowed := true, recurses := true, named := ["io.EOF", "loop.example/lib-readerscripts/impl.errBroken", "loop.example/lib-readerscripts/impl.errFull", "io.ErrUnexpectedEOF", "io.ErrShortBuffer", "io.ErrShortWrite", "io.errWhence", "io.errOffset"], ifaces := true, apart := false, laid := [("io.ErrShortWrite", laid_io_ErrShortWrite), ("io.ErrShortBuffer", laid_io_ErrShortBuffer), ("io.EOF", laid_io_EOF), ("io.ErrUnexpectedEOF", laid_io_ErrUnexpectedEOF), ("io.errWhence", laid_io_errWhence), ("io.errOffset", laid_io_errOffset), ("loop.example/lib-readerscripts/impl.errBroken", laid_loop_example_lib_readerscripts_impl_errBroken), ("loop.example/lib-readerscripts/impl.errFull", laid_loop_example_lib_readerscripts_impl_errFull)] }
def FnSectionSaid : Prop := fnSectionRow.holds Tryd.pinned (OpenSpec.ofChange fnSectionSpec)

/-- ITS FALSE NEIGHBOUR: 'it returns false'. Refute it at one input. -/
def fnSectionWrong : ChangeSpec := { name := "fnSection", vars := ["loop.example/lib-readerscripts/impl.errBroken", "loop.example/lib-readerscripts/impl.errFull"], fn := fun _ => fun
  | [d, g1, g2] => { results := [.lit (.bool false)], args := [d], vars := [g1, g2] }
  | _ => none }
def FnSectionWrongFalsely : Prop := fnSectionRow.holds Tryd.pinned (OpenSpec.ofChange fnSectionWrong)

/-- 'laws.FnSectionAll': WHATEVER THE INPUT: true; the input reads as it did. -/
def fnSectionAllSpec : ChangeSpec := { name := "fnSectionAll", vars := ["loop.example/lib-readerscripts/impl.errBroken", "loop.example/lib-readerscripts/impl.errFull"], fn := fun _ => fun
  | [d, g1, g2] => { results := [.lit (.bool true)], args := [d], vars := [g1, g2] }
  | _ => none }
def fnSectionAllRow : OpenClaim := { program := "ytdlgknaipljhhaadoor", sum := "5ea2f4ca1466cb1661f0539ea76ca14ddf08f459641dc1192b25b78b54014990", func := "loop.example/lib-readerscripts/laws.FnSectionAll", spec := "fnSectionAll", unfollowed := true, recurses := true, named := ["io.EOF", "loop.example/lib-readerscripts/impl.errBroken", "loop.example/lib-readerscripts/impl.errFull", "io.ErrUnexpectedEOF", "io.ErrShortBuffer", "io.ErrShortWrite", "io.errWhence", "io.errOffset"], ifaces := true, apart := false, laid := [("io.ErrShortWrite", laid_io_ErrShortWrite), ("io.ErrShortBuffer", laid_io_ErrShortBuffer), ("io.EOF", laid_io_EOF), ("io.ErrUnexpectedEOF", laid_io_ErrUnexpectedEOF), ("io.errWhence", laid_io_errWhence), ("io.errOffset", laid_io_errOffset), ("loop.example/lib-readerscripts/impl.errBroken", laid_loop_example_lib_readerscripts_impl_errBroken), ("loop.example/lib-readerscripts/impl.errFull", laid_loop_example_lib_readerscripts_impl_errFull)] }
def FnSectionAllSaid : Prop := fnSectionAllRow.holds Tryd.pinned (OpenSpec.ofChange fnSectionAllSpec)

/-- ITS FALSE NEIGHBOUR: 'it returns false'. Refute it at one input. -/
def fnSectionAllWrong : ChangeSpec := { name := "fnSectionAll", vars := ["loop.example/lib-readerscripts/impl.errBroken", "loop.example/lib-readerscripts/impl.errFull"], fn := fun _ => fun
  | [d, g1, g2] => { results := [.lit (.bool false)], args := [d], vars := [g1, g2] }
  | _ => none }
def FnSectionAllWrongFalsely : Prop := fnSectionAllRow.holds Tryd.pinned (OpenSpec.ofChange fnSectionAllWrong)

/-- 'laws.FnSectionBad': WHATEVER THE INPUT: true; the input reads as it did. -/
def fnSectionBadSpec : ChangeSpec := { name := "fnSectionBad", vars := ["loop.example/lib-readerscripts/impl.errBroken", "loop.example/lib-readerscripts/impl.errFull"], fn := fun _ => fun
  | [d, g1, g2] => { results := [.lit (.bool true)], args := [d], vars := [g1, g2] }
  | _ => none }
def fnSectionBadRow : OpenClaim := { program := "ytdlgknaipljhhaadoor", sum := "5ea2f4ca1466cb1661f0539ea76ca14ddf08f459641dc1192b25b78b54014990", func := "loop.example/lib-readerscripts/laws.FnSectionBad", spec := "fnSectionBad", unfollowed := true, recurses := true, named := ["io.EOF", "loop.example/lib-readerscripts/impl.errBroken", "loop.example/lib-readerscripts/impl.errFull", "io.ErrUnexpectedEOF", "io.ErrShortBuffer", "io.ErrShortWrite", "io.errWhence", "io.errOffset"], ifaces := true, apart := false, laid := [("io.ErrShortWrite", laid_io_ErrShortWrite), ("io.ErrShortBuffer", laid_io_ErrShortBuffer), ("io.EOF", laid_io_EOF), ("io.ErrUnexpectedEOF", laid_io_ErrUnexpectedEOF), ("io.errWhence", laid_io_errWhence), ("io.errOffset", laid_io_errOffset), ("loop.example/lib-readerscripts/impl.errBroken", laid_loop_example_lib_readerscripts_impl_errBroken), ("loop.example/lib-readerscripts/impl.errFull", laid_loop_example_lib_readerscripts_impl_errFull)] }
def FnSectionBadSaid : Prop := fnSectionBadRow.holds Tryd.pinned (OpenSpec.ofChange fnSectionBadSpec)

/-- ITS FALSE NEIGHBOUR: 'it returns false'. Refute it at one input. -/
def fnSectionBadWrong : ChangeSpec := { name := "fnSectionBad", vars := ["loop.example/lib-readerscripts/impl.errBroken", "loop.example/lib-readerscripts/impl.errFull"], fn := fun _ => fun
  | [d, g1, g2] => { results := [.lit (.bool false)], args := [d], vars := [g1, g2] }
  | _ => none }
def FnSectionBadWrongFalsely : Prop := fnSectionBadRow.holds Tryd.pinned (OpenSpec.ofChange fnSectionBadWrong)

/- THE SECOND FORM. 'bulk': how many values and letters a reading holds, each counted each time it is reached (what is shared counts as often as it is met; a slice's spare places count too). A statement '..UptoSaid' is the law's where the arguments, and the package variables that the reading takes, are together of bulk at most 1048576: NARROWER than '..Said'. Prove '..Said' where nothing that the law and all that it calls make is longer than what came in: it says more and counts as full. Else prove '..UptoSaid'. A law counts once. -/
mutual
def uptoBulk {H : Type} : DataW H → Nat
  | .lit (.string bytes) => bytes.length + 1
  | .lit _ => 1
  | .nil => 1
  | .ptr d => uptoBulk d + 1
  | .slice elems spare => uptoBulkAll elems + uptoBulkAll spare + 1
  | .agg parts => uptoBulkAll parts + 1
  | .iface _ d => uptoBulk d + 1
  | .map entries => uptoBulkEntries entries + 1
  | .held _ => 1
def uptoBulkAll {H : Type} : List (DataW H) → Nat
  | [] => 0
  | d :: r => uptoBulk d + uptoBulkAll r
def uptoBulkEntries {H : Type} : List (Lit × DataW H) → Nat
  | [] => 0
  | x :: r => uptoBulkEntry x + uptoBulkEntries r
def uptoBulkEntry {H : Type} : Lit × DataW H → Nat
  | (.string bytes, d) => bytes.length + uptoBulk d + 1
  | (_, d) => uptoBulk d + 1
 end
def uptoSmall : (H : Type) → List (DataW H) → Bool := fun _ ds => decide (uptoBulkAll ds ≤ 1048576)
def OpenSpec.upto (s : _root_.Go.ChangeSpec) : _root_.Go.OpenSpec := { _root_.Go.OpenSpec.ofChange s with cond := some uptoSmall }

/-- 'laws.FnSectionReads', WHERE WHAT IT READS IS OF BULK AT MOST 1048576: true; the input reads as it did. -/
def fnSectionReadsUptoRow : OpenClaim := { program := "ytdlgknaipljhhaadoor", sum := "5ea2f4ca1466cb1661f0539ea76ca14ddf08f459641dc1192b25b78b54014990", func := "loop.example/lib-readerscripts/laws.FnSectionReads", spec := "fnSectionReads", unfollowed := true, recurses := true, named := ["io.EOF", "loop.example/lib-readerscripts/impl.errBroken", "loop.example/lib-readerscripts/impl.errFull", "io.ErrUnexpectedEOF", "io.ErrShortBuffer", "io.ErrShortWrite", "io.errWhence", "io.errOffset"], ifaces := true, apart := false, laid := [("io.ErrShortWrite", laid_io_ErrShortWrite), ("io.ErrShortBuffer", laid_io_ErrShortBuffer), ("io.EOF", laid_io_EOF), ("io.ErrUnexpectedEOF", laid_io_ErrUnexpectedEOF), ("io.errWhence", laid_io_errWhence), ("io.errOffset", laid_io_errOffset), ("loop.example/lib-readerscripts/impl.errBroken", laid_loop_example_lib_readerscripts_impl_errBroken), ("loop.example/lib-readerscripts/impl.errFull", laid_loop_example_lib_readerscripts_impl_errFull)], narrowed := true }
def FnSectionReadsUptoSaid : Prop := fnSectionReadsUptoRow.holds Tryd.pinned (OpenSpec.upto fnSectionReadsSpec)

/-- 'laws.FnSectionSeek', WHERE WHAT IT READS IS OF BULK AT MOST 1048576: true; the input reads as it did. -/
def fnSectionSeekUptoRow : OpenClaim := { program := "ytdlgknaipljhhaadoor", sum := "5ea2f4ca1466cb1661f0539ea76ca14ddf08f459641dc1192b25b78b54014990", func := "loop.example/lib-readerscripts/laws.FnSectionSeek", spec := "fnSectionSeek", unfollowed := true, recurses := true, named := ["io.EOF", "loop.example/lib-readerscripts/impl.errBroken", "loop.example/lib-readerscripts/impl.errFull", "io.ErrUnexpectedEOF", "io.ErrShortBuffer", "io.ErrShortWrite", "io.errWhence", "io.errOffset"], ifaces := true, apart := false, laid := [("io.ErrShortWrite", laid_io_ErrShortWrite), ("io.ErrShortBuffer", laid_io_ErrShortBuffer), ("io.EOF", laid_io_EOF), ("io.ErrUnexpectedEOF", laid_io_ErrUnexpectedEOF), ("io.errWhence", laid_io_errWhence), ("io.errOffset", laid_io_errOffset), ("loop.example/lib-readerscripts/impl.errBroken", laid_loop_example_lib_readerscripts_impl_errBroken), ("loop.example/lib-readerscripts/impl.errFull", laid_loop_example_lib_readerscripts_impl_errFull)], narrowed := true }
def FnSectionSeekUptoSaid : Prop := fnSectionSeekUptoRow.holds Tryd.pinned (OpenSpec.upto fnSectionSeekSpec)

/-- 'laws.FnSectionStays', WHERE WHAT IT READS IS OF BULK AT MOST 1048576: true; the input reads as it did. -/
def fnSectionStaysUptoRow : OpenClaim := { program := "ytdlgknaipljhhaadoor", sum := "5ea2f4ca1466cb1661f0539ea76ca14ddf08f459641dc1192b25b78b54014990", func := "loop.example/lib-readerscripts/laws.FnSectionStays", spec := "fnSectionStays", unfollowed := true, recurses := true, named := ["io.EOF", "loop.example/lib-readerscripts/impl.errBroken", "loop.example/lib-readerscripts/impl.errFull", "io.ErrUnexpectedEOF", "io.ErrShortBuffer", "io.ErrShortWrite", "io.errWhence", "io.errOffset"], ifaces := true, apart := false, laid := [("io.ErrShortWrite", laid_io_ErrShortWrite), ("io.ErrShortBuffer", laid_io_ErrShortBuffer), ("io.EOF", laid_io_EOF), ("io.ErrUnexpectedEOF", laid_io_ErrUnexpectedEOF), ("io.errWhence", laid_io_errWhence), ("io.errOffset", laid_io_errOffset), ("loop.example/lib-readerscripts/impl.errBroken", laid_loop_example_lib_readerscripts_impl_errBroken), ("loop.example/lib-readerscripts/impl.errFull", laid_loop_example_lib_readerscripts_impl_errFull)], narrowed := true }
def FnSectionStaysUptoSaid : Prop := fnSectionStaysUptoRow.holds Tryd.pinned (OpenSpec.upto fnSectionStaysSpec)

/-- 'laws.FnExactSection', WHERE WHAT IT READS IS OF BULK AT MOST 1048576: true; the input reads as it did. -/
def fnExactSectionUptoRow : OpenClaim := { program := "ytdlgknaipljhhaadoor", sum := "5ea2f4ca1466cb1661f0539ea76ca14ddf08f459641dc1192b25b78b54014990", func := "loop.example/lib-readerscripts/laws.FnExactSection", spec := "fnExactSection", unfollowed := true, recurses := true, named := ["io.EOF", "loop.example/lib-readerscripts/impl.errBroken", "loop.example/lib-readerscripts/impl.errFull", "io.ErrUnexpectedEOF", "io.ErrShortBuffer", "io.ErrShortWrite", "io.errWhence", "io.errOffset"], ifaces := true, apart := false, laid := [("io.ErrShortWrite", laid_io_ErrShortWrite), ("io.ErrShortBuffer", laid_io_ErrShortBuffer), ("io.EOF", laid_io_EOF), ("io.ErrUnexpectedEOF", laid_io_ErrUnexpectedEOF), ("io.errWhence", laid_io_errWhence), ("io.errOffset", laid_io_errOffset), ("loop.example/lib-readerscripts/impl.errBroken", laid_loop_example_lib_readerscripts_impl_errBroken), ("loop.example/lib-readerscripts/impl.errFull", laid_loop_example_lib_readerscripts_impl_errFull)], narrowed := true }
def FnExactSectionUptoSaid : Prop := fnExactSectionUptoRow.holds Tryd.pinned (OpenSpec.upto fnExactSectionSpec)

/-- 'laws.FnSection', WHERE WHAT IT READS IS OF BULK AT MOST 1048576: true; the input reads as it did. -/
def fnSectionUptoRow : OpenClaim := { program := "ytdlgknaipljhhaadoor", sum := "5ea2f4ca1466cb1661f0539ea76ca14ddf08f459641dc1192b25b78b54014990", func := "loop.example/lib-readerscripts/laws.FnSection", spec := "fnSection", unfollowed := true, recurses := true, named := ["io.EOF", "loop.example/lib-readerscripts/impl.errBroken", "loop.example/lib-readerscripts/impl.errFull", "io.ErrUnexpectedEOF", "io.ErrShortBuffer", "io.ErrShortWrite", "io.errWhence", "io.errOffset"], ifaces := true, apart := false, laid := [("io.ErrShortWrite", laid_io_ErrShortWrite), ("io.ErrShortBuffer", laid_io_ErrShortBuffer), ("io.EOF", laid_io_EOF), ("io.ErrUnexpectedEOF", laid_io_ErrUnexpectedEOF), ("io.errWhence", laid_io_errWhence), ("io.errOffset", laid_io_errOffset), ("loop.example/lib-readerscripts/impl.errBroken", laid_loop_example_lib_readerscripts_impl_errBroken), ("loop.example/lib-readerscripts/impl.errFull", laid_loop_example_lib_readerscripts_impl_errFull)], narrowed := true }
def FnSectionUptoSaid : Prop := fnSectionUptoRow.holds Tryd.pinned (OpenSpec.upto fnSectionSpec)

/-- 'laws.FnSectionAll', WHERE WHAT IT READS IS OF BULK AT MOST 1048576: true; the input reads as it did. -/
def fnSectionAllUptoRow : OpenClaim := { program := "ytdlgknaipljhhaadoor", sum := "5ea2f4ca1466cb1661f0539ea76ca14ddf08f459641dc1192b25b78b54014990", func := "loop.example/lib-readerscripts/laws.FnSectionAll", spec := "fnSectionAll", unfollowed := true, recurses := true, named := ["io.EOF", "loop.example/lib-readerscripts/impl.errBroken", "loop.example/lib-readerscripts/impl.errFull", "io.ErrUnexpectedEOF", "io.ErrShortBuffer", "io.ErrShortWrite", "io.errWhence", "io.errOffset"], ifaces := true, apart := false, laid := [("io.ErrShortWrite", laid_io_ErrShortWrite), ("io.ErrShortBuffer", laid_io_ErrShortBuffer), ("io.EOF", laid_io_EOF), ("io.ErrUnexpectedEOF", laid_io_ErrUnexpectedEOF), ("io.errWhence", laid_io_errWhence), ("io.errOffset", laid_io_errOffset), ("loop.example/lib-readerscripts/impl.errBroken", laid_loop_example_lib_readerscripts_impl_errBroken), ("loop.example/lib-readerscripts/impl.errFull", laid_loop_example_lib_readerscripts_impl_errFull)], narrowed := true }
def FnSectionAllUptoSaid : Prop := fnSectionAllUptoRow.holds Tryd.pinned (OpenSpec.upto fnSectionAllSpec)

/-- 'laws.FnSectionBad', WHERE WHAT IT READS IS OF BULK AT MOST 1048576: true; the input reads as it did. -/
def fnSectionBadUptoRow : OpenClaim := { program := "ytdlgknaipljhhaadoor", sum := "5ea2f4ca1466cb1661f0539ea76ca14ddf08f459641dc1192b25b78b54014990", func := "loop.example/lib-readerscripts/laws.FnSectionBad", spec := "fnSectionBad", unfollowed := true, recurses := true, named := ["io.EOF", "loop.example/lib-readerscripts/impl.errBroken", "loop.example/lib-readerscripts/impl.errFull", "io.ErrUnexpectedEOF", "io.ErrShortBuffer", "io.ErrShortWrite", "io.errWhence", "io.errOffset"], ifaces := true, apart := false, laid := [("io.ErrShortWrite", laid_io_ErrShortWrite), ("io.ErrShortBuffer", laid_io_ErrShortBuffer), ("io.EOF", laid_io_EOF), ("io.ErrUnexpectedEOF", laid_io_ErrUnexpectedEOF), ("io.errWhence", laid_io_errWhence), ("io.errOffset", laid_io_errOffset), ("loop.example/lib-readerscripts/impl.errBroken", laid_loop_example_lib_readerscripts_impl_errBroken), ("loop.example/lib-readerscripts/impl.errFull", laid_loop_example_lib_readerscripts_impl_errFull)], narrowed := true }
def FnSectionBadUptoSaid : Prop := fnSectionBadUptoRow.holds Tryd.pinned (OpenSpec.upto fnSectionBadSpec)

end Rows
end Go.Proofs.YtdlgknaipljhhaaDoor
