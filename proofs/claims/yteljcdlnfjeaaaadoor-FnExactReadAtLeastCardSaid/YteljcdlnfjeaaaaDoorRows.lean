/-
  NARROWER THAN 'FOR EVERY INPUT', by the rows' own cells (each row's printed sentence says how): FnCopyN: ifaces, laid · FnCopyNIff: ifaces, laid · FnExactCopyN: ifaces, laid · FnExactReadAtLeast: ifaces, laid · FnReadAtLeast: ifaces, laid · FnReadAtLeastIff: ifaces, laid · FnCopyNFull: ifaces, laid · FnReadAtLeastFull: ifaces, laid · FnReadAtLeastNext: ifaces, laid · FnCopyRoads: ifaces, laid.
  DERIVED. THE GIVEN ROWS OF THIS SEAT. 10 by the template 'for every input the law returns true; each argument reads behind the call as it read before'; 0 by the template 'total and deterministic' (their statements: YteljcdlnfjeaaaaDoorTotals.lean).
  GIVEN WITH THE SEED: the statements are not yours to turn. If you find one false, say at which input.
  Laid BY PROGRAM, IN A SANDBOX (cutbox-rows.mjs): the forced cells as the released guide's own fill.sh prints them over the translation c220f2b02cb443cb… (all of the seat's roots in one cut). By AI agents, Wed Nov 11 2026. No macro, syntax, notation, axiom, sorry.
-/
import Derived.Test.YteljcdlnfjeaaaaDoorChecked
import GoSem.Claim
import GoSem.ClaimJoined
import GoSem.ClaimMapViews
import Derived.JoinedTies
import Derived.KernelRfl
namespace Go.Proofs.YteljcdlnfjeaaaaDoor
/- THE CELL 'sum', in the pinned program and in every row, IS THE sha256 OF THE DUMP (.gsa) THAT YteljcdlnfjeaaaaDoorProg.lean LOADS. Nothing in Lean hashes anything: it is a label: what it is worth is what the hold of that sum in a sandbox is worth. -/
noncomputable def Tryd.pinned : Pinned := { name := "yteljcdlnfjeaaaadoor", sum := "c220f2b02cb443cb93b38ceb9bce25829586411ad853d0e9c270857be8250f64", checked := Tryd.checked }
namespace Rows
def none {H : Type} : Left H := { results := [], args := [] }

/- WHAT THE LISTED PACKAGE-LEVEL VARIABLES READ AS WHEN THE CALL BEGINS. Each datum BY PROGRAM (the guide's laid-datum.mjs) off the statement by which the dump's own 'gosem.cut.vars' lays the variable. In a bare row this is a premise. The card (YteljcdlnfjeaaaaDoorCards.lean) ties it to the program's text. -/
def laid_io_ErrShortWrite {H : Type} : DataW H := .iface "*errors.errorString" (.ptr (.agg [.lit (.string [115, 104, 111, 114, 116, 32, 119, 114, 105, 116, 101])]))
def laid_io_errInvalidWrite {H : Type} : DataW H := .iface "*errors.errorString" (.ptr (.agg [.lit (.string [105, 110, 118, 97, 108, 105, 100, 32, 119, 114, 105, 116, 101, 32, 114, 101, 115, 117, 108, 116])]))
def laid_io_ErrShortBuffer {H : Type} : DataW H := .iface "*errors.errorString" (.ptr (.agg [.lit (.string [115, 104, 111, 114, 116, 32, 98, 117, 102, 102, 101, 114])]))
def laid_io_EOF {H : Type} : DataW H := .iface "*errors.errorString" (.ptr (.agg [.lit (.string [69, 79, 70])]))
def laid_io_ErrUnexpectedEOF {H : Type} : DataW H := .iface "*errors.errorString" (.ptr (.agg [.lit (.string [117, 110, 101, 120, 112, 101, 99, 116, 101, 100, 32, 69, 79, 70])]))
def laid_loop_example_lib_readerscripts_impl_errBroken {H : Type} : DataW H := .iface "*errors.errorString" (.ptr (.agg [.lit (.string [98, 114, 111, 107, 101, 110])]))
def laid_loop_example_lib_readerscripts_impl_errFull {H : Type} : DataW H := .iface "*errors.errorString" (.ptr (.agg [.lit (.string [102, 117, 108, 108])]))

/-- 'laws.FnCopyN': WHATEVER THE INPUT: true; the input reads as it did. -/
def fnCopyNSpec : ChangeSpec := { name := "fnCopyN", vars := ["loop.example/lib-readerscripts/impl.errBroken", "loop.example/lib-readerscripts/impl.errFull"], fn := fun _ => fun
  | [d, g1, g2] => { results := [.lit (.bool true)], args := [d], vars := [g1, g2] }
  | _ => none }
def fnCopyNRow : OpenClaim := { program := "yteljcdlnfjeaaaadoor", sum := "c220f2b02cb443cb93b38ceb9bce25829586411ad853d0e9c270857be8250f64", func := "loop.example/lib-readerscripts/laws.FnCopyN", spec := "fnCopyN", unfollowed := true, recurses := true, named := ["io.EOF", "io.errInvalidWrite", "io.ErrShortWrite", "loop.example/lib-readerscripts/impl.errBroken", "loop.example/lib-readerscripts/impl.errFull", "io.ErrUnexpectedEOF", "io.ErrShortBuffer"], ifaces := true, apart := false, laid := [("io.ErrShortWrite", laid_io_ErrShortWrite), ("io.errInvalidWrite", laid_io_errInvalidWrite), ("io.ErrShortBuffer", laid_io_ErrShortBuffer), ("io.EOF", laid_io_EOF), ("io.ErrUnexpectedEOF", laid_io_ErrUnexpectedEOF), ("loop.example/lib-readerscripts/impl.errBroken", laid_loop_example_lib_readerscripts_impl_errBroken), ("loop.example/lib-readerscripts/impl.errFull", laid_loop_example_lib_readerscripts_impl_errFull)] }
def FnCopyNSaid : Prop := fnCopyNRow.holds Tryd.pinned (OpenSpec.ofChange fnCopyNSpec)

/-- ITS FALSE NEIGHBOUR: 'it returns false'. Refute it at one input. -/
def fnCopyNWrong : ChangeSpec := { name := "fnCopyN", vars := ["loop.example/lib-readerscripts/impl.errBroken", "loop.example/lib-readerscripts/impl.errFull"], fn := fun _ => fun
  | [d, g1, g2] => { results := [.lit (.bool false)], args := [d], vars := [g1, g2] }
  | _ => none }
def FnCopyNWrongFalsely : Prop := fnCopyNRow.holds Tryd.pinned (OpenSpec.ofChange fnCopyNWrong)

/-- 'laws.FnCopyNIff': WHATEVER THE INPUT: true; the input reads as it did. -/
def fnCopyNIffSpec : ChangeSpec := { name := "fnCopyNIff", vars := ["loop.example/lib-readerscripts/impl.errBroken", "loop.example/lib-readerscripts/impl.errFull"], fn := fun _ => fun
  | [d, g1, g2] => { results := [.lit (.bool true)], args := [d], vars := [g1, g2] }
  | _ => none }
def fnCopyNIffRow : OpenClaim := { program := "yteljcdlnfjeaaaadoor", sum := "c220f2b02cb443cb93b38ceb9bce25829586411ad853d0e9c270857be8250f64", func := "loop.example/lib-readerscripts/laws.FnCopyNIff", spec := "fnCopyNIff", unfollowed := true, recurses := true, named := ["io.EOF", "io.errInvalidWrite", "io.ErrShortWrite", "loop.example/lib-readerscripts/impl.errBroken", "loop.example/lib-readerscripts/impl.errFull", "io.ErrUnexpectedEOF", "io.ErrShortBuffer"], ifaces := true, apart := false, laid := [("io.ErrShortWrite", laid_io_ErrShortWrite), ("io.errInvalidWrite", laid_io_errInvalidWrite), ("io.ErrShortBuffer", laid_io_ErrShortBuffer), ("io.EOF", laid_io_EOF), ("io.ErrUnexpectedEOF", laid_io_ErrUnexpectedEOF), ("loop.example/lib-readerscripts/impl.errBroken", laid_loop_example_lib_readerscripts_impl_errBroken), ("loop.example/lib-readerscripts/impl.errFull", laid_loop_example_lib_readerscripts_impl_errFull)] }
def FnCopyNIffSaid : Prop := fnCopyNIffRow.holds Tryd.pinned (OpenSpec.ofChange fnCopyNIffSpec)

/-- ITS FALSE NEIGHBOUR: 'it returns false'. Refute it at one input. -/
def fnCopyNIffWrong : ChangeSpec := { name := "fnCopyNIff", vars := ["loop.example/lib-readerscripts/impl.errBroken", "loop.example/lib-readerscripts/impl.errFull"], fn := fun _ => fun
  | [d, g1, g2] => { results := [.lit (.bool false)], args := [d], vars := [g1, g2] }
  | _ => none }
def FnCopyNIffWrongFalsely : Prop := fnCopyNIffRow.holds Tryd.pinned (OpenSpec.ofChange fnCopyNIffWrong)

/-- 'laws.FnExactCopyN': WHATEVER THE INPUT: true; the input reads as it did. -/
def fnExactCopyNSpec : ChangeSpec := { name := "fnExactCopyN", vars := ["loop.example/lib-readerscripts/impl.errBroken", "loop.example/lib-readerscripts/impl.errFull"], fn := fun _ => fun
  | [d1, d2, d3, g1, g2] => { results := [.lit (.bool true)], args := [d1, d2, d3], vars := [g1, g2] }
  | _ => none }
def fnExactCopyNRow : OpenClaim := { program := "yteljcdlnfjeaaaadoor", sum := "c220f2b02cb443cb93b38ceb9bce25829586411ad853d0e9c270857be8250f64", func := "loop.example/lib-readerscripts/laws.FnExactCopyN", spec := "fnExactCopyN", unfollowed := true, recurses := true, named := ["io.EOF", "io.errInvalidWrite", "io.ErrShortWrite", "loop.example/lib-readerscripts/impl.errBroken", "loop.example/lib-readerscripts/impl.errFull", "io.ErrUnexpectedEOF", "io.ErrShortBuffer"], ifaces := true, apart := false, laid := [("io.ErrShortWrite", laid_io_ErrShortWrite), ("io.errInvalidWrite", laid_io_errInvalidWrite), ("io.ErrShortBuffer", laid_io_ErrShortBuffer), ("io.EOF", laid_io_EOF), ("io.ErrUnexpectedEOF", laid_io_ErrUnexpectedEOF), ("loop.example/lib-readerscripts/impl.errBroken", laid_loop_example_lib_readerscripts_impl_errBroken), ("loop.example/lib-readerscripts/impl.errFull", laid_loop_example_lib_readerscripts_impl_errFull)] }
def FnExactCopyNSaid : Prop := fnExactCopyNRow.holds Tryd.pinned (OpenSpec.ofChange fnExactCopyNSpec)

/-- ITS FALSE NEIGHBOUR: 'it returns false'. Refute it at one input. -/
def fnExactCopyNWrong : ChangeSpec := { name := "fnExactCopyN", vars := ["loop.example/lib-readerscripts/impl.errBroken", "loop.example/lib-readerscripts/impl.errFull"], fn := fun _ => fun
  | [d1, d2, d3, g1, g2] => { results := [.lit (.bool false)], args := [d1, d2, d3], vars := [g1, g2] }
  | _ => none }
def FnExactCopyNWrongFalsely : Prop := fnExactCopyNRow.holds Tryd.pinned (OpenSpec.ofChange fnExactCopyNWrong)

/-- 'laws.FnExactReadAtLeast': WHATEVER THE INPUT: true; the input reads as it did. -/
def fnExactReadAtLeastSpec : ChangeSpec := { name := "fnExactReadAtLeast", vars := ["loop.example/lib-readerscripts/impl.errBroken", "loop.example/lib-readerscripts/impl.errFull"], fn := fun _ => fun
  | [d1, d2, d3, d4, g1, g2] => { results := [.lit (.bool true)], args := [d1, d2, d3, d4], vars := [g1, g2] }
  | _ => none }
def fnExactReadAtLeastRow : OpenClaim := { program := "yteljcdlnfjeaaaadoor", sum := "c220f2b02cb443cb93b38ceb9bce25829586411ad853d0e9c270857be8250f64", func := "loop.example/lib-readerscripts/laws.FnExactReadAtLeast", spec := "fnExactReadAtLeast", unfollowed := true, recurses := true, named := ["io.ErrShortBuffer", "io.EOF", "io.ErrUnexpectedEOF", "loop.example/lib-readerscripts/impl.errBroken", "loop.example/lib-readerscripts/impl.errFull", "io.ErrShortWrite"], ifaces := true, apart := false, laid := [("io.ErrShortWrite", laid_io_ErrShortWrite), ("io.ErrShortBuffer", laid_io_ErrShortBuffer), ("io.EOF", laid_io_EOF), ("io.ErrUnexpectedEOF", laid_io_ErrUnexpectedEOF), ("loop.example/lib-readerscripts/impl.errBroken", laid_loop_example_lib_readerscripts_impl_errBroken), ("loop.example/lib-readerscripts/impl.errFull", laid_loop_example_lib_readerscripts_impl_errFull)] }
def FnExactReadAtLeastSaid : Prop := fnExactReadAtLeastRow.holds Tryd.pinned (OpenSpec.ofChange fnExactReadAtLeastSpec)

/-- ITS FALSE NEIGHBOUR: 'it returns false'. Refute it at one input. -/
def fnExactReadAtLeastWrong : ChangeSpec := { name := "fnExactReadAtLeast", vars := ["loop.example/lib-readerscripts/impl.errBroken", "loop.example/lib-readerscripts/impl.errFull"], fn := fun _ => fun
  | [d1, d2, d3, d4, g1, g2] => { results := [.lit (.bool false)], args := [d1, d2, d3, d4], vars := [g1, g2] }
  | _ => none }
def FnExactReadAtLeastWrongFalsely : Prop := fnExactReadAtLeastRow.holds Tryd.pinned (OpenSpec.ofChange fnExactReadAtLeastWrong)

/-- 'laws.FnReadAtLeast': WHATEVER THE INPUT: true; the input reads as it did. -/
def fnReadAtLeastSpec : ChangeSpec := { name := "fnReadAtLeast", vars := ["loop.example/lib-readerscripts/impl.errBroken", "loop.example/lib-readerscripts/impl.errFull"], fn := fun _ => fun
  | [d, g1, g2] => { results := [.lit (.bool true)], args := [d], vars := [g1, g2] }
  | _ => none }
def fnReadAtLeastRow : OpenClaim := { program := "yteljcdlnfjeaaaadoor", sum := "c220f2b02cb443cb93b38ceb9bce25829586411ad853d0e9c270857be8250f64", func := "loop.example/lib-readerscripts/laws.FnReadAtLeast", spec := "fnReadAtLeast", unfollowed := true, recurses := true, named := ["io.ErrShortBuffer", "io.EOF", "io.ErrUnexpectedEOF", "loop.example/lib-readerscripts/impl.errBroken", "loop.example/lib-readerscripts/impl.errFull", "io.ErrShortWrite"], ifaces := true, apart := false, laid := [("io.ErrShortWrite", laid_io_ErrShortWrite), ("io.ErrShortBuffer", laid_io_ErrShortBuffer), ("io.EOF", laid_io_EOF), ("io.ErrUnexpectedEOF", laid_io_ErrUnexpectedEOF), ("loop.example/lib-readerscripts/impl.errBroken", laid_loop_example_lib_readerscripts_impl_errBroken), ("loop.example/lib-readerscripts/impl.errFull", laid_loop_example_lib_readerscripts_impl_errFull)] }
def FnReadAtLeastSaid : Prop := fnReadAtLeastRow.holds Tryd.pinned (OpenSpec.ofChange fnReadAtLeastSpec)

/-- ITS FALSE NEIGHBOUR: 'it returns false'. Refute it at one input. -/
def fnReadAtLeastWrong : ChangeSpec := { name := "fnReadAtLeast", vars := ["loop.example/lib-readerscripts/impl.errBroken", "loop.example/lib-readerscripts/impl.errFull"], fn := fun _ => fun
  | [d, g1, g2] => { results := [.lit (.bool false)], args := [d], vars := [g1, g2] }
  | _ => none }
def FnReadAtLeastWrongFalsely : Prop := fnReadAtLeastRow.holds Tryd.pinned (OpenSpec.ofChange fnReadAtLeastWrong)

/-- 'laws.FnReadAtLeastIff': WHATEVER THE INPUT: true; the input reads as it did. -/
def fnReadAtLeastIffSpec : ChangeSpec := { name := "fnReadAtLeastIff", vars := ["loop.example/lib-readerscripts/impl.errBroken", "loop.example/lib-readerscripts/impl.errFull"], fn := fun _ => fun
  | [d, g1, g2] => { results := [.lit (.bool true)], args := [d], vars := [g1, g2] }
  | _ => none }
def fnReadAtLeastIffRow : OpenClaim := { program := "yteljcdlnfjeaaaadoor", sum := "c220f2b02cb443cb93b38ceb9bce25829586411ad853d0e9c270857be8250f64", func := "loop.example/lib-readerscripts/laws.FnReadAtLeastIff", spec := "fnReadAtLeastIff", unfollowed := true, recurses := true, named := ["io.ErrShortBuffer", "io.EOF", "io.ErrUnexpectedEOF", "loop.example/lib-readerscripts/impl.errBroken", "loop.example/lib-readerscripts/impl.errFull", "io.ErrShortWrite"], ifaces := true, apart := false, laid := [("io.ErrShortWrite", laid_io_ErrShortWrite), ("io.ErrShortBuffer", laid_io_ErrShortBuffer), ("io.EOF", laid_io_EOF), ("io.ErrUnexpectedEOF", laid_io_ErrUnexpectedEOF), ("loop.example/lib-readerscripts/impl.errBroken", laid_loop_example_lib_readerscripts_impl_errBroken), ("loop.example/lib-readerscripts/impl.errFull", laid_loop_example_lib_readerscripts_impl_errFull)] }
def FnReadAtLeastIffSaid : Prop := fnReadAtLeastIffRow.holds Tryd.pinned (OpenSpec.ofChange fnReadAtLeastIffSpec)

/-- ITS FALSE NEIGHBOUR: 'it returns false'. Refute it at one input. -/
def fnReadAtLeastIffWrong : ChangeSpec := { name := "fnReadAtLeastIff", vars := ["loop.example/lib-readerscripts/impl.errBroken", "loop.example/lib-readerscripts/impl.errFull"], fn := fun _ => fun
  | [d, g1, g2] => { results := [.lit (.bool false)], args := [d], vars := [g1, g2] }
  | _ => none }
def FnReadAtLeastIffWrongFalsely : Prop := fnReadAtLeastIffRow.holds Tryd.pinned (OpenSpec.ofChange fnReadAtLeastIffWrong)

/-- 'laws.FnCopyNFull': WHATEVER THE INPUT: true; the input reads as it did. -/
def fnCopyNFullSpec : ChangeSpec := { name := "fnCopyNFull", vars := ["loop.example/lib-readerscripts/impl.errBroken", "loop.example/lib-readerscripts/impl.errFull"], fn := fun _ => fun
  | [d, g1, g2] => { results := [.lit (.bool true)], args := [d], vars := [g1, g2] }
  | _ => none }
def fnCopyNFullRow : OpenClaim := { program := "yteljcdlnfjeaaaadoor", sum := "c220f2b02cb443cb93b38ceb9bce25829586411ad853d0e9c270857be8250f64", func := "loop.example/lib-readerscripts/laws.FnCopyNFull", spec := "fnCopyNFull", unfollowed := true, recurses := true, named := ["io.ErrShortBuffer", "io.EOF", "io.ErrUnexpectedEOF", "loop.example/lib-readerscripts/impl.errBroken", "loop.example/lib-readerscripts/impl.errFull", "io.ErrShortWrite", "io.errInvalidWrite"], ifaces := true, apart := false, laid := [("io.ErrShortWrite", laid_io_ErrShortWrite), ("io.errInvalidWrite", laid_io_errInvalidWrite), ("io.ErrShortBuffer", laid_io_ErrShortBuffer), ("io.EOF", laid_io_EOF), ("io.ErrUnexpectedEOF", laid_io_ErrUnexpectedEOF), ("loop.example/lib-readerscripts/impl.errBroken", laid_loop_example_lib_readerscripts_impl_errBroken), ("loop.example/lib-readerscripts/impl.errFull", laid_loop_example_lib_readerscripts_impl_errFull)] }
def FnCopyNFullSaid : Prop := fnCopyNFullRow.holds Tryd.pinned (OpenSpec.ofChange fnCopyNFullSpec)

/-- ITS FALSE NEIGHBOUR: 'it returns false'. Refute it at one input. -/
def fnCopyNFullWrong : ChangeSpec := { name := "fnCopyNFull", vars := ["loop.example/lib-readerscripts/impl.errBroken", "loop.example/lib-readerscripts/impl.errFull"], fn := fun _ => fun
  | [d, g1, g2] => { results := [.lit (.bool false)], args := [d], vars := [g1, g2] }
  | _ => none }
def FnCopyNFullWrongFalsely : Prop := fnCopyNFullRow.holds Tryd.pinned (OpenSpec.ofChange fnCopyNFullWrong)

/-- 'laws.FnReadAtLeastFull': WHATEVER THE INPUT: true; the input reads as it did. -/
def fnReadAtLeastFullSpec : ChangeSpec := { name := "fnReadAtLeastFull", vars := ["loop.example/lib-readerscripts/impl.errBroken", "loop.example/lib-readerscripts/impl.errFull"], fn := fun _ => fun
  | [d, g1, g2] => { results := [.lit (.bool true)], args := [d], vars := [g1, g2] }
  | _ => none }
def fnReadAtLeastFullRow : OpenClaim := { program := "yteljcdlnfjeaaaadoor", sum := "c220f2b02cb443cb93b38ceb9bce25829586411ad853d0e9c270857be8250f64", func := "loop.example/lib-readerscripts/laws.FnReadAtLeastFull", spec := "fnReadAtLeastFull", unfollowed := true, recurses := true, named := ["io.ErrShortBuffer", "io.EOF", "io.ErrUnexpectedEOF", "loop.example/lib-readerscripts/impl.errBroken", "loop.example/lib-readerscripts/impl.errFull", "io.ErrShortWrite"], ifaces := true, apart := false, laid := [("io.ErrShortWrite", laid_io_ErrShortWrite), ("io.ErrShortBuffer", laid_io_ErrShortBuffer), ("io.EOF", laid_io_EOF), ("io.ErrUnexpectedEOF", laid_io_ErrUnexpectedEOF), ("loop.example/lib-readerscripts/impl.errBroken", laid_loop_example_lib_readerscripts_impl_errBroken), ("loop.example/lib-readerscripts/impl.errFull", laid_loop_example_lib_readerscripts_impl_errFull)] }
def FnReadAtLeastFullSaid : Prop := fnReadAtLeastFullRow.holds Tryd.pinned (OpenSpec.ofChange fnReadAtLeastFullSpec)

/-- ITS FALSE NEIGHBOUR: 'it returns false'. Refute it at one input. -/
def fnReadAtLeastFullWrong : ChangeSpec := { name := "fnReadAtLeastFull", vars := ["loop.example/lib-readerscripts/impl.errBroken", "loop.example/lib-readerscripts/impl.errFull"], fn := fun _ => fun
  | [d, g1, g2] => { results := [.lit (.bool false)], args := [d], vars := [g1, g2] }
  | _ => none }
def FnReadAtLeastFullWrongFalsely : Prop := fnReadAtLeastFullRow.holds Tryd.pinned (OpenSpec.ofChange fnReadAtLeastFullWrong)

/-- 'laws.FnReadAtLeastNext': WHATEVER THE INPUT: true; the input reads as it did. -/
def fnReadAtLeastNextSpec : ChangeSpec := { name := "fnReadAtLeastNext", vars := ["loop.example/lib-readerscripts/impl.errBroken", "loop.example/lib-readerscripts/impl.errFull"], fn := fun _ => fun
  | [d, g1, g2] => { results := [.lit (.bool true)], args := [d], vars := [g1, g2] }
  | _ => none }
def fnReadAtLeastNextRow : OpenClaim := { program := "yteljcdlnfjeaaaadoor", sum := "c220f2b02cb443cb93b38ceb9bce25829586411ad853d0e9c270857be8250f64", func := "loop.example/lib-readerscripts/laws.FnReadAtLeastNext", spec := "fnReadAtLeastNext", unfollowed := true, recurses := true, named := ["io.ErrShortBuffer", "io.EOF", "io.ErrUnexpectedEOF", "loop.example/lib-readerscripts/impl.errBroken", "loop.example/lib-readerscripts/impl.errFull", "io.ErrShortWrite"], ifaces := true, apart := false, laid := [("io.ErrShortWrite", laid_io_ErrShortWrite), ("io.ErrShortBuffer", laid_io_ErrShortBuffer), ("io.EOF", laid_io_EOF), ("io.ErrUnexpectedEOF", laid_io_ErrUnexpectedEOF), ("loop.example/lib-readerscripts/impl.errBroken", laid_loop_example_lib_readerscripts_impl_errBroken), ("loop.example/lib-readerscripts/impl.errFull", laid_loop_example_lib_readerscripts_impl_errFull)] }
def FnReadAtLeastNextSaid : Prop := fnReadAtLeastNextRow.holds Tryd.pinned (OpenSpec.ofChange fnReadAtLeastNextSpec)

/-- ITS FALSE NEIGHBOUR: 'it returns false'. Refute it at one input. -/
def fnReadAtLeastNextWrong : ChangeSpec := { name := "fnReadAtLeastNext", vars := ["loop.example/lib-readerscripts/impl.errBroken", "loop.example/lib-readerscripts/impl.errFull"], fn := fun _ => fun
  | [d, g1, g2] => { results := [.lit (.bool false)], args := [d], vars := [g1, g2] }
  | _ => none }
def FnReadAtLeastNextWrongFalsely : Prop := fnReadAtLeastNextRow.holds Tryd.pinned (OpenSpec.ofChange fnReadAtLeastNextWrong)

/-- 'laws.FnCopyRoads': WHATEVER THE INPUT: true; the input reads as it did. -/
def fnCopyRoadsSpec : ChangeSpec := { name := "fnCopyRoads", vars := ["loop.example/lib-readerscripts/impl.errBroken", "loop.example/lib-readerscripts/impl.errFull"], fn := fun _ => fun
  | [d, g1, g2] => { results := [.lit (.bool true)], args := [d], vars := [g1, g2] }
  | _ => none }
def fnCopyRoadsRow : OpenClaim := { program := "yteljcdlnfjeaaaadoor", sum := "c220f2b02cb443cb93b38ceb9bce25829586411ad853d0e9c270857be8250f64", func := "loop.example/lib-readerscripts/laws.FnCopyRoads", spec := "fnCopyRoads", unfollowed := true, recurses := true, named := ["io.errInvalidWrite", "io.ErrShortWrite", "io.EOF", "loop.example/lib-readerscripts/impl.errBroken", "loop.example/lib-readerscripts/impl.errFull", "io.ErrUnexpectedEOF", "io.ErrShortBuffer"], ifaces := true, apart := false, laid := [("io.ErrShortWrite", laid_io_ErrShortWrite), ("io.errInvalidWrite", laid_io_errInvalidWrite), ("io.ErrShortBuffer", laid_io_ErrShortBuffer), ("io.EOF", laid_io_EOF), ("io.ErrUnexpectedEOF", laid_io_ErrUnexpectedEOF), ("loop.example/lib-readerscripts/impl.errBroken", laid_loop_example_lib_readerscripts_impl_errBroken), ("loop.example/lib-readerscripts/impl.errFull", laid_loop_example_lib_readerscripts_impl_errFull)] }
def FnCopyRoadsSaid : Prop := fnCopyRoadsRow.holds Tryd.pinned (OpenSpec.ofChange fnCopyRoadsSpec)

/-- ITS FALSE NEIGHBOUR: 'it returns false'. Refute it at one input. -/
def fnCopyRoadsWrong : ChangeSpec := { name := "fnCopyRoads", vars := ["loop.example/lib-readerscripts/impl.errBroken", "loop.example/lib-readerscripts/impl.errFull"], fn := fun _ => fun
  | [d, g1, g2] => { results := [.lit (.bool false)], args := [d], vars := [g1, g2] }
  | _ => none }
def FnCopyRoadsWrongFalsely : Prop := fnCopyRoadsRow.holds Tryd.pinned (OpenSpec.ofChange fnCopyRoadsWrong)

/- THE SECOND FORM. 'bulk': how many values and letters a reading holds, each counted each time it is reached (what is shared counts as often as it is met; a slice's spare places count too). A statement '..UptoSaid' is the law's where the arguments, and the package variables that the reading takes, are together of bulk at most 1048576: NARROWER than '..Said'. Prove '..Said' where nothing that the law and all that it calls make is longer than what came in: it says more and counts as full. Else prove '..UptoSaid'. A law counts once. -/
mutual
def uptoBulk {H : Type} : DataW H → Nat
  | .lit (.string bytes) => bytes.length + 1
  | .lit _ => 1
  | .nil => 1
  | .ptr d => uptoBulk d + 1
  | .slice elems spare => uptoBulkAll elems + uptoBulkAll spare + 1
  | .agg parts => uptoBulkAll parts + 1
  | .iface _ d => uptoBulk d + 1
  | .map entries => uptoBulkEntries entries + 1
  | .held _ => 1
def uptoBulkAll {H : Type} : List (DataW H) → Nat
  | [] => 0
  | d :: r => uptoBulk d + uptoBulkAll r
def uptoBulkEntries {H : Type} : List (Lit × DataW H) → Nat
  | [] => 0
  | x :: r => uptoBulkEntry x + uptoBulkEntries r
def uptoBulkEntry {H : Type} : Lit × DataW H → Nat
  | (.string bytes, d) => bytes.length + uptoBulk d + 1
  | (_, d) => uptoBulk d + 1
 end
def uptoSmall : (H : Type) → List (DataW H) → Bool := fun _ ds => decide (uptoBulkAll ds ≤ 1048576)
def OpenSpec.upto (s : _root_.Go.ChangeSpec) : _root_.Go.OpenSpec := { _root_.Go.OpenSpec.ofChange s with cond := some uptoSmall }

/-- 'laws.FnCopyN', WHERE WHAT IT READS IS OF BULK AT MOST 1048576: true; the input reads as it did. -/
def fnCopyNUptoRow : OpenClaim := { program := "yteljcdlnfjeaaaadoor", sum := "c220f2b02cb443cb93b38ceb9bce25829586411ad853d0e9c270857be8250f64", func := "loop.example/lib-readerscripts/laws.FnCopyN", spec := "fnCopyN", unfollowed := true, recurses := true, named := ["io.EOF", "io.errInvalidWrite", "io.ErrShortWrite", "loop.example/lib-readerscripts/impl.errBroken", "loop.example/lib-readerscripts/impl.errFull", "io.ErrUnexpectedEOF", "io.ErrShortBuffer"], ifaces := true, apart := false, laid := [("io.ErrShortWrite", laid_io_ErrShortWrite), ("io.errInvalidWrite", laid_io_errInvalidWrite), ("io.ErrShortBuffer", laid_io_ErrShortBuffer), ("io.EOF", laid_io_EOF), ("io.ErrUnexpectedEOF", laid_io_ErrUnexpectedEOF), ("loop.example/lib-readerscripts/impl.errBroken", laid_loop_example_lib_readerscripts_impl_errBroken), ("loop.example/lib-readerscripts/impl.errFull", laid_loop_example_lib_readerscripts_impl_errFull)], narrowed := true }
def FnCopyNUptoSaid : Prop := fnCopyNUptoRow.holds Tryd.pinned (OpenSpec.upto fnCopyNSpec)

/-- 'laws.FnCopyNIff', WHERE WHAT IT READS IS OF BULK AT MOST 1048576: true; the input reads as it did. -/
def fnCopyNIffUptoRow : OpenClaim := { program := "yteljcdlnfjeaaaadoor", sum := "c220f2b02cb443cb93b38ceb9bce25829586411ad853d0e9c270857be8250f64", func := "loop.example/lib-readerscripts/laws.FnCopyNIff", spec := "fnCopyNIff", unfollowed := true, recurses := true, named := ["io.EOF", "io.errInvalidWrite", "io.ErrShortWrite", "loop.example/lib-readerscripts/impl.errBroken", "loop.example/lib-readerscripts/impl.errFull", "io.ErrUnexpectedEOF", "io.ErrShortBuffer"], ifaces := true, apart := false, laid := [("io.ErrShortWrite", laid_io_ErrShortWrite), ("io.errInvalidWrite", laid_io_errInvalidWrite), ("io.ErrShortBuffer", laid_io_ErrShortBuffer), ("io.EOF", laid_io_EOF), ("io.ErrUnexpectedEOF", laid_io_ErrUnexpectedEOF), ("loop.example/lib-readerscripts/impl.errBroken", laid_loop_example_lib_readerscripts_impl_errBroken), ("loop.example/lib-readerscripts/impl.errFull", laid_loop_example_lib_readerscripts_impl_errFull)], narrowed := true }
def FnCopyNIffUptoSaid : Prop := fnCopyNIffUptoRow.holds Tryd.pinned (OpenSpec.upto fnCopyNIffSpec)

/-- 'laws.FnExactCopyN', WHERE WHAT IT READS IS OF BULK AT MOST 1048576: true; the input reads as it did. -/
def fnExactCopyNUptoRow : OpenClaim := { program := "yteljcdlnfjeaaaadoor", sum := "c220f2b02cb443cb93b38ceb9bce25829586411ad853d0e9c270857be8250f64", func := "loop.example/lib-readerscripts/laws.FnExactCopyN", spec := "fnExactCopyN", unfollowed := true, recurses := true, named := ["io.EOF", "io.errInvalidWrite", "io.ErrShortWrite", "loop.example/lib-readerscripts/impl.errBroken", "loop.example/lib-readerscripts/impl.errFull", "io.ErrUnexpectedEOF", "io.ErrShortBuffer"], ifaces := true, apart := false, laid := [("io.ErrShortWrite", laid_io_ErrShortWrite), ("io.errInvalidWrite", laid_io_errInvalidWrite), ("io.ErrShortBuffer", laid_io_ErrShortBuffer), ("io.EOF", laid_io_EOF), ("io.ErrUnexpectedEOF", laid_io_ErrUnexpectedEOF), ("loop.example/lib-readerscripts/impl.errBroken", laid_loop_example_lib_readerscripts_impl_errBroken), ("loop.example/lib-readerscripts/impl.errFull", laid_loop_example_lib_readerscripts_impl_errFull)], narrowed := true }
def FnExactCopyNUptoSaid : Prop := fnExactCopyNUptoRow.holds Tryd.pinned (OpenSpec.upto fnExactCopyNSpec)

/-- 'laws.FnExactReadAtLeast', WHERE WHAT IT READS IS OF BULK AT MOST 1048576: true; the input reads as it did. -/
def fnExactReadAtLeastUptoRow : OpenClaim := { program := "yteljcdlnfjeaaaadoor", sum := "c220f2b02cb443cb93b38ceb9bce25829586411ad853d0e9c270857be8250f64", func := "loop.example/lib-readerscripts/laws.FnExactReadAtLeast", spec := "fnExactReadAtLeast", unfollowed := true, recurses := true, named := ["io.ErrShortBuffer", "io.EOF", "io.ErrUnexpectedEOF", "loop.example/lib-readerscripts/impl.errBroken", "loop.example/lib-readerscripts/impl.errFull", "io.ErrShortWrite"], ifaces := true, apart := false, laid := [("io.ErrShortWrite", laid_io_ErrShortWrite), ("io.ErrShortBuffer", laid_io_ErrShortBuffer), ("io.EOF", laid_io_EOF), ("io.ErrUnexpectedEOF", laid_io_ErrUnexpectedEOF), ("loop.example/lib-readerscripts/impl.errBroken", laid_loop_example_lib_readerscripts_impl_errBroken), ("loop.example/lib-readerscripts/impl.errFull", laid_loop_example_lib_readerscripts_impl_errFull)], narrowed := true }
def FnExactReadAtLeastUptoSaid : Prop := fnExactReadAtLeastUptoRow.holds Tryd.pinned (OpenSpec.upto fnExactReadAtLeastSpec)

/-- 'laws.FnReadAtLeast', WHERE WHAT IT READS IS OF BULK AT MOST 1048576: true; the input reads as it did. -/
def fnReadAtLeastUptoRow : OpenClaim := { program := "yteljcdlnfjeaaaadoor", sum := "c220f2b02cb443cb93b38ceb9bce25829586411ad853d0e9c270857be8250f64", func := "loop.example/lib-readerscripts/laws.FnReadAtLeast", spec := "fnReadAtLeast", unfollowed := true, recurses := true, named := ["io.ErrShortBuffer", "io.EOF", "io.ErrUnexpectedEOF", "loop.example/lib-readerscripts/impl.errBroken", "loop.example/lib-readerscripts/impl.errFull", "io.ErrShortWrite"], ifaces := true, apart := false, laid := [("io.ErrShortWrite", laid_io_ErrShortWrite), ("io.ErrShortBuffer", laid_io_ErrShortBuffer), ("io.EOF", laid_io_EOF), ("io.ErrUnexpectedEOF", laid_io_ErrUnexpectedEOF), ("loop.example/lib-readerscripts/impl.errBroken", laid_loop_example_lib_readerscripts_impl_errBroken), ("loop.example/lib-readerscripts/impl.errFull", laid_loop_example_lib_readerscripts_impl_errFull)], narrowed := true }
def FnReadAtLeastUptoSaid : Prop := fnReadAtLeastUptoRow.holds Tryd.pinned (OpenSpec.upto fnReadAtLeastSpec)

/-- 'laws.FnReadAtLeastIff', WHERE WHAT IT READS IS OF BULK AT MOST 1048576: true; the input reads as it did. -/
def fnReadAtLeastIffUptoRow : OpenClaim := { program := "yteljcdlnfjeaaaadoor", sum := "c220f2b02cb443cb93b38ceb9bce25829586411ad853d0e9c270857be8250f64", func := "loop.example/lib-readerscripts/laws.FnReadAtLeastIff", spec := "fnReadAtLeastIff", unfollowed := true, recurses := true, named := ["io.ErrShortBuffer", "io.EOF", "io.ErrUnexpectedEOF", "loop.example/lib-readerscripts/impl.errBroken", "loop.example/lib-readerscripts/impl.errFull", "io.ErrShortWrite"], ifaces := true, apart := false, laid := [("io.ErrShortWrite", laid_io_ErrShortWrite), ("io.ErrShortBuffer", laid_io_ErrShortBuffer), ("io.EOF", laid_io_EOF), ("io.ErrUnexpectedEOF", laid_io_ErrUnexpectedEOF), ("loop.example/lib-readerscripts/impl.errBroken", laid_loop_example_lib_readerscripts_impl_errBroken), ("loop.example/lib-readerscripts/impl.errFull", laid_loop_example_lib_readerscripts_impl_errFull)], narrowed := true }
def FnReadAtLeastIffUptoSaid : Prop := fnReadAtLeastIffUptoRow.holds Tryd.pinned (OpenSpec.upto fnReadAtLeastIffSpec)

/-- 'laws.FnCopyNFull', WHERE WHAT IT READS IS OF BULK AT MOST 1048576: true; the input reads as it did. -/
def fnCopyNFullUptoRow : OpenClaim := { program := "yteljcdlnfjeaaaadoor", sum := "c220f2b02cb443cb93b38ceb9bce25829586411ad853d0e9c270857be8250f64", func := "loop.example/lib-readerscripts/laws.FnCopyNFull", spec := "fnCopyNFull", unfollowed := true, recurses := true, named := ["io.ErrShortBuffer", "io.EOF", "io.ErrUnexpectedEOF", "loop.example/lib-readerscripts/impl.errBroken", "loop.example/lib-readerscripts/impl.errFull", "io.ErrShortWrite", "io.errInvalidWrite"], ifaces := true, apart := false, laid := [("io.ErrShortWrite", laid_io_ErrShortWrite), ("io.errInvalidWrite", laid_io_errInvalidWrite), ("io.ErrShortBuffer", laid_io_ErrShortBuffer), ("io.EOF", laid_io_EOF), ("io.ErrUnexpectedEOF", laid_io_ErrUnexpectedEOF), ("loop.example/lib-readerscripts/impl.errBroken", laid_loop_example_lib_readerscripts_impl_errBroken), ("loop.example/lib-readerscripts/impl.errFull", laid_loop_example_lib_readerscripts_impl_errFull)], narrowed := true }
def FnCopyNFullUptoSaid : Prop := fnCopyNFullUptoRow.holds Tryd.pinned (OpenSpec.upto fnCopyNFullSpec)

/-- 'laws.FnReadAtLeastFull', WHERE WHAT IT READS IS OF BULK AT MOST 1048576: true; the input reads as it did. -/
def fnReadAtLeastFullUptoRow : OpenClaim := { program := "yteljcdlnfjeaaaadoor", sum := "c220f2b02cb443cb93b38ceb9bce25829586411ad853d0e9c270857be8250f64", func := "loop.example/lib-readerscripts/laws.FnReadAtLeastFull", spec := "fnReadAtLeastFull", unfollowed := true, recurses := true, named := ["io.ErrShortBuffer", "io.EOF", "io.ErrUnexpectedEOF", "loop.example/lib-readerscripts/impl.errBroken", "loop.example/lib-readerscripts/impl.errFull", "io.ErrShortWrite"], ifaces := true, apart := false, laid := [("io.ErrShortWrite", laid_io_ErrShortWrite), ("io.ErrShortBuffer", laid_io_ErrShortBuffer), ("io.EOF", laid_io_EOF), ("io.ErrUnexpectedEOF", laid_io_ErrUnexpectedEOF), ("loop.example/lib-readerscripts/impl.errBroken", laid_loop_example_lib_readerscripts_impl_errBroken), ("loop.example/lib-readerscripts/impl.errFull", laid_loop_example_lib_readerscripts_impl_errFull)], narrowed := true }
def FnReadAtLeastFullUptoSaid : Prop := fnReadAtLeastFullUptoRow.holds Tryd.pinned (OpenSpec.upto fnReadAtLeastFullSpec)

/-- 'laws.FnReadAtLeastNext', WHERE WHAT IT READS IS OF BULK AT MOST 1048576: true; the input reads as it did. -/
def fnReadAtLeastNextUptoRow : OpenClaim := { program := "yteljcdlnfjeaaaadoor", sum := "c220f2b02cb443cb93b38ceb9bce25829586411ad853d0e9c270857be8250f64", func := "loop.example/lib-readerscripts/laws.FnReadAtLeastNext", spec := "fnReadAtLeastNext", unfollowed := true, recurses := true, named := ["io.ErrShortBuffer", "io.EOF", "io.ErrUnexpectedEOF", "loop.example/lib-readerscripts/impl.errBroken", "loop.example/lib-readerscripts/impl.errFull", "io.ErrShortWrite"], ifaces := true, apart := false, laid := [("io.ErrShortWrite", laid_io_ErrShortWrite), ("io.ErrShortBuffer", laid_io_ErrShortBuffer), ("io.EOF", laid_io_EOF), ("io.ErrUnexpectedEOF", laid_io_ErrUnexpectedEOF), ("loop.example/lib-readerscripts/impl.errBroken", laid_loop_example_lib_readerscripts_impl_errBroken), ("loop.example/lib-readerscripts/impl.errFull", laid_loop_example_lib_readerscripts_impl_errFull)], narrowed := true }
def FnReadAtLeastNextUptoSaid : Prop := fnReadAtLeastNextUptoRow.holds Tryd.pinned (OpenSpec.upto fnReadAtLeastNextSpec)

/-- 'laws.FnCopyRoads', WHERE WHAT IT READS IS OF BULK AT MOST 1048576: true; the input reads as it did. -/
def fnCopyRoadsUptoRow : OpenClaim := { program := "yteljcdlnfjeaaaadoor", sum := "c220f2b02cb443cb93b38ceb9bce25829586411ad853d0e9c270857be8250f64", func := "loop.example/lib-readerscripts/laws.FnCopyRoads", spec := "fnCopyRoads", unfollowed := true, recurses := true, named := ["io.errInvalidWrite", "io.ErrShortWrite", "io.EOF", "loop.example/lib-readerscripts/impl.errBroken", "loop.example/lib-readerscripts/impl.errFull", "io.ErrUnexpectedEOF", "io.ErrShortBuffer"], ifaces := true, apart := false, laid := [("io.ErrShortWrite", laid_io_ErrShortWrite), ("io.errInvalidWrite", laid_io_errInvalidWrite), ("io.ErrShortBuffer", laid_io_ErrShortBuffer), ("io.EOF", laid_io_EOF), ("io.ErrUnexpectedEOF", laid_io_ErrUnexpectedEOF), ("loop.example/lib-readerscripts/impl.errBroken", laid_loop_example_lib_readerscripts_impl_errBroken), ("loop.example/lib-readerscripts/impl.errFull", laid_loop_example_lib_readerscripts_impl_errFull)], narrowed := true }
def FnCopyRoadsUptoSaid : Prop := fnCopyRoadsUptoRow.holds Tryd.pinned (OpenSpec.upto fnCopyRoadsSpec)

end Rows
end Go.Proofs.YteljcdlnfjeaaaaDoor
