/-
  NARROWER THAN 'FOR EVERY INPUT', by the rows' own cells (each row's printed sentence says how): FnCopy: ifaces, laid · FnExactCopy: ifaces, laid · FnExactReadFull: ifaces, laid · FnReadFull: ifaces, laid · FnReadFullIff: ifaces, laid · FnReadFullJoin: ifaces, laid.
  DERIVED. THE GIVEN ROWS OF THIS SEAT. 6 by the template 'for every input the law returns true; each argument reads behind the call as it read before'; 0 by the template 'total and deterministic' (their statements: YtoeihkmbbaggcaaDoorTotals.lean).
  GIVEN WITH THE SEED: the statements are not yours to turn. If you find one false, say at which input.
  Laid BY PROGRAM, IN A SANDBOX (cutbox-rows.mjs): the forced cells as the released guide's own fill.sh prints them over the translation 0e7f01898acd06c5… (all of the seat's roots in one cut). By AI agents, Wed Nov 11 2026. No macro, syntax, notation, axiom, sorry.
-/
import Derived.Test.YtoeihkmbbaggcaaDoorChecked
import GoSem.Claim
import GoSem.ClaimJoined
import GoSem.ClaimMapViews
import Derived.JoinedTies
import Derived.KernelRfl
namespace Go.Proofs.YtoeihkmbbaggcaaDoor
/- THE CELL 'sum', in the pinned program and in every row, IS THE sha256 OF THE DUMP (.gsa) THAT YtoeihkmbbaggcaaDoorProg.lean LOADS. Nothing in Lean hashes anything: it is a label: what it is worth is what the hold of that sum in a sandbox is worth. -/
noncomputable def Tryd.pinned : Pinned := { name := "ytoeihkmbbaggcaadoor", sum := "0e7f01898acd06c583c40392a2a88c5b488a8beb7f8f2bceec5245ceb822c3b1", checked := Tryd.checked }
namespace Rows
def none {H : Type} : Left H := { results := [], args := [] }

/- WHAT THE LISTED PACKAGE-LEVEL VARIABLES READ AS WHEN THE CALL BEGINS. Each datum BY PROGRAM (the guide's laid-datum.mjs) off the statement by which the dump's own 'gosem.cut.vars' lays the variable. In a bare row this is a premise. The card (YtoeihkmbbaggcaaDoorCards.lean) ties it to the program's text. -/
def laid_io_ErrShortWrite {H : Type} : DataW H := .iface "*errors.errorString" (.ptr (.agg [.lit (.string [115, 104, 111, 114, 116, 32, 119, 114, 105, 116, 101])]))
def laid_io_errInvalidWrite {H : Type} : DataW H := .iface "*errors.errorString" (.ptr (.agg [.lit (.string [105, 110, 118, 97, 108, 105, 100, 32, 119, 114, 105, 116, 101, 32, 114, 101, 115, 117, 108, 116])]))
def laid_io_ErrShortBuffer {H : Type} : DataW H := .iface "*errors.errorString" (.ptr (.agg [.lit (.string [115, 104, 111, 114, 116, 32, 98, 117, 102, 102, 101, 114])]))
def laid_io_EOF {H : Type} : DataW H := .iface "*errors.errorString" (.ptr (.agg [.lit (.string [69, 79, 70])]))
def laid_io_ErrUnexpectedEOF {H : Type} : DataW H := .iface "*errors.errorString" (.ptr (.agg [.lit (.string [117, 110, 101, 120, 112, 101, 99, 116, 101, 100, 32, 69, 79, 70])]))
def laid_loop_example_lib_readerscripts_impl_errBroken {H : Type} : DataW H := .iface "*errors.errorString" (.ptr (.agg [.lit (.string [98, 114, 111, 107, 101, 110])]))
def laid_loop_example_lib_readerscripts_impl_errFull {H : Type} : DataW H := .iface "*errors.errorString" (.ptr (.agg [.lit (.string [102, 117, 108, 108])]))

/-- 'laws.FnCopy': WHATEVER THE INPUT: true; the input reads as it did. -/
def fnCopySpec : ChangeSpec := { name := "fnCopy", vars := ["loop.example/lib-readerscripts/impl.errBroken", "loop.example/lib-readerscripts/impl.errFull"], fn := fun _ => fun
  | [d, g1, g2] => { results := [.lit (.bool true)], args := [d], vars := [g1, g2] }
  | _ => none }
def fnCopyRow : OpenClaim := { program := "ytoeihkmbbaggcaadoor", sum := "0e7f01898acd06c583c40392a2a88c5b488a8beb7f8f2bceec5245ceb822c3b1", func := "loop.example/lib-readerscripts/laws.FnCopy", spec := "fnCopy", unfollowed := true, recurses := true, named := ["io.errInvalidWrite", "io.ErrShortWrite", "io.EOF", "loop.example/lib-readerscripts/impl.errBroken", "loop.example/lib-readerscripts/impl.errFull", "io.ErrUnexpectedEOF", "io.ErrShortBuffer"], ifaces := true, apart := false, laid := [("io.ErrShortWrite", laid_io_ErrShortWrite), ("io.errInvalidWrite", laid_io_errInvalidWrite), ("io.ErrShortBuffer", laid_io_ErrShortBuffer), ("io.EOF", laid_io_EOF), ("io.ErrUnexpectedEOF", laid_io_ErrUnexpectedEOF), ("loop.example/lib-readerscripts/impl.errBroken", laid_loop_example_lib_readerscripts_impl_errBroken), ("loop.example/lib-readerscripts/impl.errFull", laid_loop_example_lib_readerscripts_impl_errFull)] }
def FnCopySaid : Prop := fnCopyRow.holds Tryd.pinned (OpenSpec.ofChange fnCopySpec)

/-- ITS FALSE NEIGHBOUR: 'it returns false'. Refute it at one input. -/
def fnCopyWrong : ChangeSpec := { name := "fnCopy", vars := ["loop.example/lib-readerscripts/impl.errBroken", "loop.example/lib-readerscripts/impl.errFull"], fn := fun _ => fun
  | [d, g1, g2] => { results := [.lit (.bool false)], args := [d], vars := [g1, g2] }
  | _ => none }
def FnCopyWrongFalsely : Prop := fnCopyRow.holds Tryd.pinned (OpenSpec.ofChange fnCopyWrong)

/-- 'laws.FnExactCopy': WHATEVER THE INPUT: true; the input reads as it did. -/
def fnExactCopySpec : ChangeSpec := { name := "fnExactCopy", vars := ["loop.example/lib-readerscripts/impl.errBroken", "loop.example/lib-readerscripts/impl.errFull"], fn := fun _ => fun
  | [d1, d2, g1, g2] => { results := [.lit (.bool true)], args := [d1, d2], vars := [g1, g2] }
  | _ => none }
def fnExactCopyRow : OpenClaim := { program := "ytoeihkmbbaggcaadoor", sum := "0e7f01898acd06c583c40392a2a88c5b488a8beb7f8f2bceec5245ceb822c3b1", func := "loop.example/lib-readerscripts/laws.FnExactCopy", spec := "fnExactCopy", unfollowed := true, recurses := true, named := ["io.errInvalidWrite", "io.ErrShortWrite", "io.EOF", "loop.example/lib-readerscripts/impl.errBroken", "loop.example/lib-readerscripts/impl.errFull", "io.ErrUnexpectedEOF", "io.ErrShortBuffer"], ifaces := true, apart := false, laid := [("io.ErrShortWrite", laid_io_ErrShortWrite), ("io.errInvalidWrite", laid_io_errInvalidWrite), ("io.ErrShortBuffer", laid_io_ErrShortBuffer), ("io.EOF", laid_io_EOF), ("io.ErrUnexpectedEOF", laid_io_ErrUnexpectedEOF), ("loop.example/lib-readerscripts/impl.errBroken", laid_loop_example_lib_readerscripts_impl_errBroken), ("loop.example/lib-readerscripts/impl.errFull", laid_loop_example_lib_readerscripts_impl_errFull)] }
def FnExactCopySaid : Prop := fnExactCopyRow.holds Tryd.pinned (OpenSpec.ofChange fnExactCopySpec)

/-- ITS FALSE NEIGHBOUR: 'it returns false'. Refute it at one input. -/
def fnExactCopyWrong : ChangeSpec := { name := "fnExactCopy", vars := ["loop.example/lib-readerscripts/impl.errBroken", "loop.example/lib-readerscripts/impl.errFull"], fn := fun _ => fun
  | [d1, d2, g1, g2] => { results := [.lit (.bool false)], args := [d1, d2], vars := [g1, g2] }
  | _ => none }
def FnExactCopyWrongFalsely : Prop := fnExactCopyRow.holds Tryd.pinned (OpenSpec.ofChange fnExactCopyWrong)

/-- 'laws.FnExactReadFull': WHATEVER THE INPUT: true; the input reads as it did. -/
def fnExactReadFullSpec : ChangeSpec := { name := "fnExactReadFull", vars := ["loop.example/lib-readerscripts/impl.errBroken", "loop.example/lib-readerscripts/impl.errFull"], fn := fun _ => fun
  | [d1, d2, g1, g2] => { results := [.lit (.bool true)], args := [d1, d2], vars := [g1, g2] }
  | _ => none }
def fnExactReadFullRow : OpenClaim := { program := "ytoeihkmbbaggcaadoor", sum := "0e7f01898acd06c583c40392a2a88c5b488a8beb7f8f2bceec5245ceb822c3b1", func := "loop.example/lib-readerscripts/laws.FnExactReadFull", spec := "fnExactReadFull", unfollowed := true, recurses := true, named := ["io.ErrShortBuffer", "io.EOF", "io.ErrUnexpectedEOF", "loop.example/lib-readerscripts/impl.errBroken", "loop.example/lib-readerscripts/impl.errFull", "io.ErrShortWrite"], ifaces := true, apart := false, laid := [("io.ErrShortWrite", laid_io_ErrShortWrite), ("io.ErrShortBuffer", laid_io_ErrShortBuffer), ("io.EOF", laid_io_EOF), ("io.ErrUnexpectedEOF", laid_io_ErrUnexpectedEOF), ("loop.example/lib-readerscripts/impl.errBroken", laid_loop_example_lib_readerscripts_impl_errBroken), ("loop.example/lib-readerscripts/impl.errFull", laid_loop_example_lib_readerscripts_impl_errFull)] }
def FnExactReadFullSaid : Prop := fnExactReadFullRow.holds Tryd.pinned (OpenSpec.ofChange fnExactReadFullSpec)

/-- ITS FALSE NEIGHBOUR: 'it returns false'. Refute it at one input. -/
def fnExactReadFullWrong : ChangeSpec := { name := "fnExactReadFull", vars := ["loop.example/lib-readerscripts/impl.errBroken", "loop.example/lib-readerscripts/impl.errFull"], fn := fun _ => fun
  | [d1, d2, g1, g2] => { results := [.lit (.bool false)], args := [d1, d2], vars := [g1, g2] }
  | _ => none }
def FnExactReadFullWrongFalsely : Prop := fnExactReadFullRow.holds Tryd.pinned (OpenSpec.ofChange fnExactReadFullWrong)

/-- 'laws.FnReadFull': WHATEVER THE INPUT: true; the input reads as it did. -/
def fnReadFullSpec : ChangeSpec := { name := "fnReadFull", vars := ["loop.example/lib-readerscripts/impl.errBroken", "loop.example/lib-readerscripts/impl.errFull"], fn := fun _ => fun
  | [d, g1, g2] => { results := [.lit (.bool true)], args := [d], vars := [g1, g2] }
  | _ => none }
def fnReadFullRow : OpenClaim := { program := "ytoeihkmbbaggcaadoor", sum := "0e7f01898acd06c583c40392a2a88c5b488a8beb7f8f2bceec5245ceb822c3b1", func := "loop.example/lib-readerscripts/laws.FnReadFull", spec := "fnReadFull", unfollowed := true, recurses := true, named := ["io.ErrShortBuffer", "io.EOF", "io.ErrUnexpectedEOF", "loop.example/lib-readerscripts/impl.errBroken", "loop.example/lib-readerscripts/impl.errFull", "io.ErrShortWrite"], ifaces := true, apart := false, laid := [("io.ErrShortWrite", laid_io_ErrShortWrite), ("io.ErrShortBuffer", laid_io_ErrShortBuffer), ("io.EOF", laid_io_EOF), ("io.ErrUnexpectedEOF", laid_io_ErrUnexpectedEOF), ("loop.example/lib-readerscripts/impl.errBroken", laid_loop_example_lib_readerscripts_impl_errBroken), ("loop.example/lib-readerscripts/impl.errFull", laid_loop_example_lib_readerscripts_impl_errFull)] }
def FnReadFullSaid : Prop := fnReadFullRow.holds Tryd.pinned (OpenSpec.ofChange fnReadFullSpec)

/-- ITS FALSE NEIGHBOUR: 'it returns false'. Refute it at one input. -/
def fnReadFullWrong : ChangeSpec := { name := "fnReadFull", vars := ["loop.example/lib-readerscripts/impl.errBroken", "loop.example/lib-readerscripts/impl.errFull"], fn := fun _ => fun
  | [d, g1, g2] => { results := [.lit (.bool false)], args := [d], vars := [g1, g2] }
  | _ => none }
def FnReadFullWrongFalsely : Prop := fnReadFullRow.holds Tryd.pinned (OpenSpec.ofChange fnReadFullWrong)

/-- 'laws.FnReadFullIff': WHATEVER THE INPUT: true; the input reads as it did. -/
def fnReadFullIffSpec : ChangeSpec := { name := "fnReadFullIff", vars := ["loop.example/lib-readerscripts/impl.errBroken", "loop.example/lib-readerscripts/impl.errFull"], fn := fun _ => fun
  | [d, g1, g2] => { results := [.lit (.bool true)], args := [d], vars := [g1, g2] }
  | _ => none }
def fnReadFullIffRow : OpenClaim := { program := "ytoeihkmbbaggcaadoor", sum := "0e7f01898acd06c583c40392a2a88c5b488a8beb7f8f2bceec5245ceb822c3b1", func := "loop.example/lib-readerscripts/laws.FnReadFullIff", spec := "fnReadFullIff", unfollowed := true, recurses := true, named := ["io.ErrShortBuffer", "io.EOF", "io.ErrUnexpectedEOF", "loop.example/lib-readerscripts/impl.errBroken", "loop.example/lib-readerscripts/impl.errFull", "io.ErrShortWrite"], ifaces := true, apart := false, laid := [("io.ErrShortWrite", laid_io_ErrShortWrite), ("io.ErrShortBuffer", laid_io_ErrShortBuffer), ("io.EOF", laid_io_EOF), ("io.ErrUnexpectedEOF", laid_io_ErrUnexpectedEOF), ("loop.example/lib-readerscripts/impl.errBroken", laid_loop_example_lib_readerscripts_impl_errBroken), ("loop.example/lib-readerscripts/impl.errFull", laid_loop_example_lib_readerscripts_impl_errFull)] }
def FnReadFullIffSaid : Prop := fnReadFullIffRow.holds Tryd.pinned (OpenSpec.ofChange fnReadFullIffSpec)

/-- ITS FALSE NEIGHBOUR: 'it returns false'. Refute it at one input. -/
def fnReadFullIffWrong : ChangeSpec := { name := "fnReadFullIff", vars := ["loop.example/lib-readerscripts/impl.errBroken", "loop.example/lib-readerscripts/impl.errFull"], fn := fun _ => fun
  | [d, g1, g2] => { results := [.lit (.bool false)], args := [d], vars := [g1, g2] }
  | _ => none }
def FnReadFullIffWrongFalsely : Prop := fnReadFullIffRow.holds Tryd.pinned (OpenSpec.ofChange fnReadFullIffWrong)

/-- 'laws.FnReadFullJoin': WHATEVER THE INPUT: true; the input reads as it did. -/
def fnReadFullJoinSpec : ChangeSpec := { name := "fnReadFullJoin", vars := ["loop.example/lib-readerscripts/impl.errBroken", "loop.example/lib-readerscripts/impl.errFull"], fn := fun _ => fun
  | [d, g1, g2] => { results := [.lit (.bool true)], args := [d], vars := [g1, g2] }
  | _ => none }
def fnReadFullJoinRow : OpenClaim := { program := "ytoeihkmbbaggcaadoor", sum := "0e7f01898acd06c583c40392a2a88c5b488a8beb7f8f2bceec5245ceb822c3b1", func := "loop.example/lib-readerscripts/laws.FnReadFullJoin", spec := "fnReadFullJoin", unfollowed := true, recurses := true, named := ["io.ErrShortBuffer", "io.EOF", "io.ErrUnexpectedEOF", "loop.example/lib-readerscripts/impl.errBroken", "loop.example/lib-readerscripts/impl.errFull", "io.ErrShortWrite"], ifaces := true, apart := false, laid := [("io.ErrShortWrite", laid_io_ErrShortWrite), ("io.ErrShortBuffer", laid_io_ErrShortBuffer), ("io.EOF", laid_io_EOF), ("io.ErrUnexpectedEOF", laid_io_ErrUnexpectedEOF), ("loop.example/lib-readerscripts/impl.errBroken", laid_loop_example_lib_readerscripts_impl_errBroken), ("loop.example/lib-readerscripts/impl.errFull", laid_loop_example_lib_readerscripts_impl_errFull)] }
def FnReadFullJoinSaid : Prop := fnReadFullJoinRow.holds Tryd.pinned (OpenSpec.ofChange fnReadFullJoinSpec)

/-- ITS FALSE NEIGHBOUR: 'it returns false'. Refute it at one input. -/
def fnReadFullJoinWrong : ChangeSpec := { name := "fnReadFullJoin", vars := ["loop.example/lib-readerscripts/impl.errBroken", "loop.example/lib-readerscripts/impl.errFull"], fn := fun _ => fun
  | [d, g1, g2] => { results := [.lit (.bool false)], args := [d], vars := [g1, g2] }
  | _ => none }
def FnReadFullJoinWrongFalsely : Prop := fnReadFullJoinRow.holds Tryd.pinned (OpenSpec.ofChange fnReadFullJoinWrong)

/- THE SECOND FORM. 'bulk': how many values and letters a reading holds, each counted each time it is reached (what is shared counts as often as it is met; a slice's spare places count too). A statement '..UptoSaid' is the law's where the arguments, and the package variables that the reading takes, are together of bulk at most 1048576: NARROWER than '..Said'. Prove '..Said' where nothing that the law and all that it calls make is longer than what came in: it says more and counts as full. Else prove '..UptoSaid'. A law counts once. -/
mutual
def uptoBulk {H : Type} : DataW H → Nat
  | .lit (.string bytes) => bytes.length + 1
  | .lit _ => 1
  | .nil => 1
  | .ptr d => uptoBulk d + 1
  | .slice elems spare => uptoBulkAll elems + uptoBulkAll spare + 1
  | .agg parts => uptoBulkAll parts + 1
  | .iface _ d => uptoBulk d + 1
  | .map entries => uptoBulkEntries entries + 1
  | .held _ => 1
def uptoBulkAll {H : Type} : List (DataW H) → Nat
  | [] => 0
  | d :: r => uptoBulk d + uptoBulkAll r
def uptoBulkEntries {H : Type} : List (Lit × DataW H) → Nat
  | [] => 0
  | x :: r => uptoBulkEntry x + uptoBulkEntries r
def uptoBulkEntry {H : Type} : Lit × DataW H → Nat
  | (.string bytes, d) => bytes.length + uptoBulk d + 1
  | (_, d) => uptoBulk d + 1
 end
def uptoSmall : (H : Type) → List (DataW H) → Bool := fun _ ds => decide (uptoBulkAll ds ≤ 1048576)
def OpenSpec.upto (s : _root_.Go.ChangeSpec) : _root_.Go.OpenSpec := { _root_.Go.OpenSpec.ofChange s with cond := some uptoSmall }

/-- 'laws.FnCopy', WHERE WHAT IT READS IS OF BULK AT MOST 1048576: true; the input reads as it did. -/
def fnCopyUptoRow : OpenClaim := { program := "ytoeihkmbbaggcaadoor", sum := "0e7f01898acd06c583c40392a2a88c5b488a8beb7f8f2bceec5245ceb822c3b1", func := "loop.example/lib-readerscripts/laws.FnCopy", spec := "fnCopy", unfollowed := true, recurses := true, named := ["io.errInvalidWrite", "io.ErrShortWrite", "io.EOF", "loop.example/lib-readerscripts/impl.errBroken", "loop.example/lib-readerscripts/impl.errFull", "io.ErrUnexpectedEOF", "io.ErrShortBuffer"], ifaces := true, apart := false, laid := [("io.ErrShortWrite", laid_io_ErrShortWrite), ("io.errInvalidWrite", laid_io_errInvalidWrite), ("io.ErrShortBuffer", laid_io_ErrShortBuffer), ("io.EOF", laid_io_EOF), ("io.ErrUnexpectedEOF", laid_io_ErrUnexpectedEOF), ("loop.example/lib-readerscripts/impl.errBroken", laid_loop_example_lib_readerscripts_impl_errBroken), ("loop.example/lib-readerscripts/impl.errFull", laid_loop_example_lib_readerscripts_impl_errFull)], narrowed := true }
def FnCopyUptoSaid : Prop := fnCopyUptoRow.holds Tryd.pinned (OpenSpec.upto fnCopySpec)

/-- 'laws.FnExactCopy', WHERE WHAT IT READS IS OF BULK AT MOST 1048576: true; the input reads as it did. -/
def fnExactCopyUptoRow : OpenClaim := { program := "ytoeihkmbbaggcaadoor", sum := "0e7f01898acd06c583c40392a2a88c5b488a8beb7f8f2bceec5245ceb822c3b1", func := "loop.example/lib-readerscripts/laws.FnExactCopy", spec := "fnExactCopy", unfollowed := true, recurses := true, named := ["io.errInvalidWrite", "io.ErrShortWrite", "io.EOF", "loop.example/lib-readerscripts/impl.errBroken", "loop.example/lib-readerscripts/impl.errFull", "io.ErrUnexpectedEOF", "io.ErrShortBuffer"], ifaces := true, apart := false, laid := [("io.ErrShortWrite", laid_io_ErrShortWrite), ("io.errInvalidWrite", laid_io_errInvalidWrite), ("io.ErrShortBuffer", laid_io_ErrShortBuffer), ("io.EOF", laid_io_EOF), ("io.ErrUnexpectedEOF", laid_io_ErrUnexpectedEOF), ("loop.example/lib-readerscripts/impl.errBroken", laid_loop_example_lib_readerscripts_impl_errBroken), ("loop.example/lib-readerscripts/impl.errFull", laid_loop_example_lib_readerscripts_impl_errFull)], narrowed := true }
def FnExactCopyUptoSaid : Prop := fnExactCopyUptoRow.holds Tryd.pinned (OpenSpec.upto fnExactCopySpec)

/-- 'laws.FnExactReadFull', WHERE WHAT IT READS IS OF BULK AT MOST 1048576: true; the input reads as it did. -/
def fnExactReadFullUptoRow : OpenClaim := { program := "ytoeihkmbbaggcaadoor", sum := "0e7f01898acd06c583c40392a2a88c5b488a8beb7f8f2bceec5245ceb822c3b1", func := "loop.example/lib-readerscripts/laws.FnExactReadFull", spec := "fnExactReadFull", unfollowed := true, recurses := true, named := ["io.ErrShortBuffer", "io.EOF", "io.ErrUnexpectedEOF", "loop.example/lib-readerscripts/impl.errBroken", "loop.example/lib-readerscripts/impl.errFull", "io.ErrShortWrite"], ifaces := true, apart := false, laid := [("io.ErrShortWrite", laid_io_ErrShortWrite), ("io.ErrShortBuffer", laid_io_ErrShortBuffer), ("io.EOF", laid_io_EOF), ("io.ErrUnexpectedEOF", laid_io_ErrUnexpectedEOF), ("loop.example/lib-readerscripts/impl.errBroken", laid_loop_example_lib_readerscripts_impl_errBroken), ("loop.example/lib-readerscripts/impl.errFull", laid_loop_example_lib_readerscripts_impl_errFull)], narrowed := true }
def FnExactReadFullUptoSaid : Prop := fnExactReadFullUptoRow.holds Tryd.pinned (OpenSpec.upto fnExactReadFullSpec)

/-- 'laws.FnReadFull', WHERE WHAT IT READS IS OF BULK AT MOST 1048576: true; the input reads as it did. -/
def fnReadFullUptoRow : OpenClaim := { program := "ytoeihkmbbaggcaadoor", sum := "0e7f01898acd06c583c40392a2a88c5b488a8beb7f8f2bceec5245ceb822c3b1", func := "loop.example/lib-readerscripts/laws.FnReadFull", spec := "fnReadFull", unfollowed := true, recurses := true, named := ["io.ErrShortBuffer", "io.EOF", "io.ErrUnexpectedEOF", "loop.example/lib-readerscripts/impl.errBroken", "loop.example/lib-readerscripts/impl.errFull", "io.ErrShortWrite"], ifaces := true, apart := false, laid := [("io.ErrShortWrite", laid_io_ErrShortWrite), ("io.ErrShortBuffer", laid_io_ErrShortBuffer), ("io.EOF", laid_io_EOF), ("io.ErrUnexpectedEOF", laid_io_ErrUnexpectedEOF), ("loop.example/lib-readerscripts/impl.errBroken", laid_loop_example_lib_readerscripts_impl_errBroken), ("loop.example/lib-readerscripts/impl.errFull", laid_loop_example_lib_readerscripts_impl_errFull)], narrowed := true }
def FnReadFullUptoSaid : Prop := fnReadFullUptoRow.holds Tryd.pinned (OpenSpec.upto fnReadFullSpec)

/-- 'laws.FnReadFullIff', WHERE WHAT IT READS IS OF BULK AT MOST 1048576: true; the input reads as it did. -/
def fnReadFullIffUptoRow : OpenClaim := { program := "ytoeihkmbbaggcaadoor", sum := "0e7f01898acd06c583c40392a2a88c5b488a8beb7f8f2bceec5245ceb822c3b1", func := "loop.example/lib-readerscripts/laws.FnReadFullIff", spec := "fnReadFullIff", unfollowed := true, recurses := true, named := ["io.ErrShortBuffer", "io.EOF", "io.ErrUnexpectedEOF", "loop.example/lib-readerscripts/impl.errBroken", "loop.example/lib-readerscripts/impl.errFull", "io.ErrShortWrite"], ifaces := true, apart := false, laid := [("io.ErrShortWrite", laid_io_ErrShortWrite), ("io.ErrShortBuffer", laid_io_ErrShortBuffer), ("io.EOF", laid_io_EOF), ("io.ErrUnexpectedEOF", laid_io_ErrUnexpectedEOF), ("loop.example/lib-readerscripts/impl.errBroken", laid_loop_example_lib_readerscripts_impl_errBroken), ("loop.example/lib-readerscripts/impl.errFull", laid_loop_example_lib_readerscripts_impl_errFull)], narrowed := true }
def FnReadFullIffUptoSaid : Prop := fnReadFullIffUptoRow.holds Tryd.pinned (OpenSpec.upto fnReadFullIffSpec)

/-- 'laws.FnReadFullJoin', WHERE WHAT IT READS IS OF BULK AT MOST 1048576: true; the input reads as it did. -/
def fnReadFullJoinUptoRow : OpenClaim := { program := "ytoeihkmbbaggcaadoor", sum := "0e7f01898acd06c583c40392a2a88c5b488a8beb7f8f2bceec5245ceb822c3b1", func := "loop.example/lib-readerscripts/laws.FnReadFullJoin", spec := "fnReadFullJoin", unfollowed := true, recurses := true, named := ["io.ErrShortBuffer", "io.EOF", "io.ErrUnexpectedEOF", "loop.example/lib-readerscripts/impl.errBroken", "loop.example/lib-readerscripts/impl.errFull", "io.ErrShortWrite"], ifaces := true, apart := false, laid := [("io.ErrShortWrite", laid_io_ErrShortWrite), ("io.ErrShortBuffer", laid_io_ErrShortBuffer), ("io.EOF", laid_io_EOF), ("io.ErrUnexpectedEOF", laid_io_ErrUnexpectedEOF), ("loop.example/lib-readerscripts/impl.errBroken", laid_loop_example_lib_readerscripts_impl_errBroken), ("loop.example/lib-readerscripts/impl.errFull", laid_loop_example_lib_readerscripts_impl_errFull)], narrowed := true }
def FnReadFullJoinUptoSaid : Prop := fnReadFullJoinUptoRow.holds Tryd.pinned (OpenSpec.upto fnReadFullJoinSpec)

end Rows
end Go.Proofs.YtoeihkmbbaggcaaDoor
