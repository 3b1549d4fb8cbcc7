/-
  NARROWER THAN 'FOR EVERY INPUT', by the rows' own cells (each row's printed sentence says how): FnExactLimit: ifaces, laid · FnLimit: ifaces, laid · FnLimitAll: ifaces, laid · FnLimitData: ifaces, laid · FnLimitEnd: ifaces, laid · FnExactLimited: ifaces, laid · FnLimited: ifaces, laid · FnExactTee: ifaces, laid · FnTee: ifaces, laid · FnTeeData: ifaces, laid · FnTeeFull: ifaces, laid.
  DERIVED. THE GIVEN ROWS OF THIS SEAT. 11 by the template 'for every input the law returns true; each argument reads behind the call as it read before'; 0 by the template 'total and deterministic' (their statements: YtbddgkmkdjkloaaDoorTotals.lean).
  GIVEN WITH THE SEED: the statements are not yours to turn. If you find one false, say at which input.
  Laid BY PROGRAM, IN A SANDBOX (cutbox-rows.mjs): the forced cells as the released guide's own fill.sh prints them over the translation 703c7cc50078ad35… (all of the seat's roots in one cut). By AI agents, Wed Nov 11 2026. No macro, syntax, notation, axiom, sorry.
-/
import Derived.Test.YtbddgkmkdjkloaaDoorChecked
import GoSem.Claim
import GoSem.ClaimJoined
import GoSem.ClaimMapViews
import Derived.JoinedTies
import Derived.KernelRfl
namespace Go.Proofs.YtbddgkmkdjkloaaDoor
/- THE CELL 'sum', in the pinned program and in every row, IS THE sha256 OF THE DUMP (.gsa) THAT YtbddgkmkdjkloaaDoorProg.lean LOADS. Nothing in Lean hashes anything: it is a label: what it is worth is what the hold of that sum in a sandbox is worth. -/
noncomputable def Tryd.pinned : Pinned := { name := "ytbddgkmkdjkloaadoor", sum := "703c7cc50078ad35c6833f7245fb49cb725060127184238f9465998a690a7dfe", checked := Tryd.checked }
namespace Rows
def none {H : Type} : Left H := { results := [], args := [] }

/- WHAT THE LISTED PACKAGE-LEVEL VARIABLES READ AS WHEN THE CALL BEGINS. Each datum BY PROGRAM (the guide's laid-datum.mjs) off the statement by which the dump's own 'gosem.cut.vars' lays the variable. In a bare row this is a premise. The card (YtbddgkmkdjkloaaDoorCards.lean) ties it to the program's text. -/
def laid_io_ErrShortWrite {H : Type} : DataW H := .iface "*errors.errorString" (.ptr (.agg [.lit (.string [115, 104, 111, 114, 116, 32, 119, 114, 105, 116, 101])]))
def laid_io_ErrShortBuffer {H : Type} : DataW H := .iface "*errors.errorString" (.ptr (.agg [.lit (.string [115, 104, 111, 114, 116, 32, 98, 117, 102, 102, 101, 114])]))
def laid_io_EOF {H : Type} : DataW H := .iface "*errors.errorString" (.ptr (.agg [.lit (.string [69, 79, 70])]))
def laid_io_ErrUnexpectedEOF {H : Type} : DataW H := .iface "*errors.errorString" (.ptr (.agg [.lit (.string [117, 110, 101, 120, 112, 101, 99, 116, 101, 100, 32, 69, 79, 70])]))
def laid_loop_example_lib_readerscripts_impl_errBroken {H : Type} : DataW H := .iface "*errors.errorString" (.ptr (.agg [.lit (.string [98, 114, 111, 107, 101, 110])]))
def laid_loop_example_lib_readerscripts_impl_errFull {H : Type} : DataW H := .iface "*errors.errorString" (.ptr (.agg [.lit (.string [102, 117, 108, 108])]))

/-- 'laws.FnExactLimit': WHATEVER THE INPUT: true; the input reads as it did. -/
def fnExactLimitSpec : ChangeSpec := { name := "fnExactLimit", vars := ["loop.example/lib-readerscripts/impl.errBroken", "loop.example/lib-readerscripts/impl.errFull"], fn := fun _ => fun
  | [d1, d2, d3, g1, g2] => { results := [.lit (.bool true)], args := [d1, d2, d3], vars := [g1, g2] }
  | _ => none }
def fnExactLimitRow : OpenClaim := { program := "ytbddgkmkdjkloaadoor", sum := "703c7cc50078ad35c6833f7245fb49cb725060127184238f9465998a690a7dfe", func := "loop.example/lib-readerscripts/laws.FnExactLimit", spec := "fnExactLimit", unfollowed := true, recurses := true, named := ["io.EOF", "loop.example/lib-readerscripts/impl.errBroken", "loop.example/lib-readerscripts/impl.errFull", "io.ErrUnexpectedEOF", "io.ErrShortBuffer", "io.ErrShortWrite"], ifaces := true, apart := false, laid := [("io.ErrShortWrite", laid_io_ErrShortWrite), ("io.ErrShortBuffer", laid_io_ErrShortBuffer), ("io.EOF", laid_io_EOF), ("io.ErrUnexpectedEOF", laid_io_ErrUnexpectedEOF), ("loop.example/lib-readerscripts/impl.errBroken", laid_loop_example_lib_readerscripts_impl_errBroken), ("loop.example/lib-readerscripts/impl.errFull", laid_loop_example_lib_readerscripts_impl_errFull)] }
def FnExactLimitSaid : Prop := fnExactLimitRow.holds Tryd.pinned (OpenSpec.ofChange fnExactLimitSpec)

/-- ITS FALSE NEIGHBOUR: 'it returns false'. Refute it at one input. -/
def fnExactLimitWrong : ChangeSpec := { name := "fnExactLimit", vars := ["loop.example/lib-readerscripts/impl.errBroken", "loop.example/lib-readerscripts/impl.errFull"], fn := fun _ => fun
  | [d1, d2, d3, g1, g2] => { results := [.lit (.bool false)], args := [d1, d2, d3], vars := [g1, g2] }
  | _ => none }
def FnExactLimitWrongFalsely : Prop := fnExactLimitRow.holds Tryd.pinned (OpenSpec.ofChange fnExactLimitWrong)

/-- 'laws.FnLimit': WHATEVER THE INPUT: true; the input reads as it did. -/
def fnLimitSpec : ChangeSpec := { name := "fnLimit", vars := ["loop.example/lib-readerscripts/impl.errBroken", "loop.example/lib-readerscripts/impl.errFull"], fn := fun _ => fun
  | [d, g1, g2] => { results := [.lit (.bool true)], args := [d], vars := [g1, g2] }
  | _ => none }
def fnLimitRow : OpenClaim := { program := "ytbddgkmkdjkloaadoor", sum := "703c7cc50078ad35c6833f7245fb49cb725060127184238f9465998a690a7dfe", func := "loop.example/lib-readerscripts/laws.FnLimit", spec := "fnLimit", unfollowed := true, recurses := true, named := ["io.EOF", "loop.example/lib-readerscripts/impl.errBroken", "loop.example/lib-readerscripts/impl.errFull", "io.ErrUnexpectedEOF", "io.ErrShortBuffer", "io.ErrShortWrite"], ifaces := true, apart := false, laid := [("io.ErrShortWrite", laid_io_ErrShortWrite), ("io.ErrShortBuffer", laid_io_ErrShortBuffer), ("io.EOF", laid_io_EOF), ("io.ErrUnexpectedEOF", laid_io_ErrUnexpectedEOF), ("loop.example/lib-readerscripts/impl.errBroken", laid_loop_example_lib_readerscripts_impl_errBroken), ("loop.example/lib-readerscripts/impl.errFull", laid_loop_example_lib_readerscripts_impl_errFull)] }
def FnLimitSaid : Prop := fnLimitRow.holds Tryd.pinned (OpenSpec.ofChange fnLimitSpec)

/-- ITS FALSE NEIGHBOUR: 'it returns false'. Refute it at one input. -/
def fnLimitWrong : ChangeSpec := { name := "fnLimit", vars := ["loop.example/lib-readerscripts/impl.errBroken", "loop.example/lib-readerscripts/impl.errFull"], fn := fun _ => fun
  | [d, g1, g2] => { results := [.lit (.bool false)], args := [d], vars := [g1, g2] }
  | _ => none }
def FnLimitWrongFalsely : Prop := fnLimitRow.holds Tryd.pinned (OpenSpec.ofChange fnLimitWrong)

/-- 'laws.FnLimitAll': WHATEVER THE INPUT: true; the input reads as it did. -/
def fnLimitAllSpec : ChangeSpec := { name := "fnLimitAll", vars := ["loop.example/lib-readerscripts/impl.errBroken", "loop.example/lib-readerscripts/impl.errFull"], fn := fun _ => fun
  | [d, g1, g2] => { results := [.lit (.bool true)], args := [d], vars := [g1, g2] }
  | _ => none }
def fnLimitAllRow : OpenClaim := { program := "ytbddgkmkdjkloaadoor", sum := "703c7cc50078ad35c6833f7245fb49cb725060127184238f9465998a690a7dfe", func := "loop.example/lib-readerscripts/laws.FnLimitAll", spec := "fnLimitAll", unfollowed := true, recurses := true, named := ["io.EOF", "loop.example/lib-readerscripts/impl.errBroken", "loop.example/lib-readerscripts/impl.errFull", "io.ErrUnexpectedEOF", "io.ErrShortBuffer", "io.ErrShortWrite"], ifaces := true, apart := false, laid := [("io.ErrShortWrite", laid_io_ErrShortWrite), ("io.ErrShortBuffer", laid_io_ErrShortBuffer), ("io.EOF", laid_io_EOF), ("io.ErrUnexpectedEOF", laid_io_ErrUnexpectedEOF), ("loop.example/lib-readerscripts/impl.errBroken", laid_loop_example_lib_readerscripts_impl_errBroken), ("loop.example/lib-readerscripts/impl.errFull", laid_loop_example_lib_readerscripts_impl_errFull)] }
def FnLimitAllSaid : Prop := fnLimitAllRow.holds Tryd.pinned (OpenSpec.ofChange fnLimitAllSpec)

/-- ITS FALSE NEIGHBOUR: 'it returns false'. Refute it at one input. -/
def fnLimitAllWrong : ChangeSpec := { name := "fnLimitAll", vars := ["loop.example/lib-readerscripts/impl.errBroken", "loop.example/lib-readerscripts/impl.errFull"], fn := fun _ => fun
  | [d, g1, g2] => { results := [.lit (.bool false)], args := [d], vars := [g1, g2] }
  | _ => none }
def FnLimitAllWrongFalsely : Prop := fnLimitAllRow.holds Tryd.pinned (OpenSpec.ofChange fnLimitAllWrong)

/-- 'laws.FnLimitData': WHATEVER THE INPUT: true; the input reads as it did. -/
def fnLimitDataSpec : ChangeSpec := { name := "fnLimitData", vars := ["loop.example/lib-readerscripts/impl.errBroken", "loop.example/lib-readerscripts/impl.errFull"], fn := fun _ => fun
  | [d, g1, g2] => { results := [.lit (.bool true)], args := [d], vars := [g1, g2] }
  | _ => none }
def fnLimitDataRow : OpenClaim := { program := "ytbddgkmkdjkloaadoor", sum := "703c7cc50078ad35c6833f7245fb49cb725060127184238f9465998a690a7dfe", func := "loop.example/lib-readerscripts/laws.FnLimitData", spec := "fnLimitData", unfollowed := true, recurses := true, named := ["io.EOF", "loop.example/lib-readerscripts/impl.errBroken", "loop.example/lib-readerscripts/impl.errFull", "io.ErrUnexpectedEOF", "io.ErrShortBuffer", "io.ErrShortWrite"], ifaces := true, apart := false, laid := [("io.ErrShortWrite", laid_io_ErrShortWrite), ("io.ErrShortBuffer", laid_io_ErrShortBuffer), ("io.EOF", laid_io_EOF), ("io.ErrUnexpectedEOF", laid_io_ErrUnexpectedEOF), ("loop.example/lib-readerscripts/impl.errBroken", laid_loop_example_lib_readerscripts_impl_errBroken), ("loop.example/lib-readerscripts/impl.errFull", laid_loop_example_lib_readerscripts_impl_errFull)] }
def FnLimitDataSaid : Prop := fnLimitDataRow.holds Tryd.pinned (OpenSpec.ofChange fnLimitDataSpec)

/-- ITS FALSE NEIGHBOUR: 'it returns false'. Refute it at one input. -/
def fnLimitDataWrong : ChangeSpec := { name := "fnLimitData", vars := ["loop.example/lib-readerscripts/impl.errBroken", "loop.example/lib-readerscripts/impl.errFull"], fn := fun _ => fun
  | [d, g1, g2] => { results := [.lit (.bool false)], args := [d], vars := [g1, g2] }
  | _ => none }
def FnLimitDataWrongFalsely : Prop := fnLimitDataRow.holds Tryd.pinned (OpenSpec.ofChange fnLimitDataWrong)

/-- 'laws.FnLimitEnd': WHATEVER THE INPUT: true; the input reads as it did. -/
def fnLimitEndSpec : ChangeSpec := { name := "fnLimitEnd", vars := ["loop.example/lib-readerscripts/impl.errBroken", "loop.example/lib-readerscripts/impl.errFull"], fn := fun _ => fun
  | [d, g1, g2] => { results := [.lit (.bool true)], args := [d], vars := [g1, g2] }
  | _ => none }
def fnLimitEndRow : OpenClaim := { program := "ytbddgkmkdjkloaadoor", sum := "703c7cc50078ad35c6833f7245fb49cb725060127184238f9465998a690a7dfe", func := "loop.example/lib-readerscripts/laws.FnLimitEnd", spec := "fnLimitEnd", unfollowed := true, recurses := true, named := ["io.EOF", "loop.example/lib-readerscripts/impl.errBroken", "loop.example/lib-readerscripts/impl.errFull", "io.ErrUnexpectedEOF", "io.ErrShortBuffer", "io.ErrShortWrite"], ifaces := true, apart := false, laid := [("io.ErrShortWrite", laid_io_ErrShortWrite), ("io.ErrShortBuffer", laid_io_ErrShortBuffer), ("io.EOF", laid_io_EOF), ("io.ErrUnexpectedEOF", laid_io_ErrUnexpectedEOF), ("loop.example/lib-readerscripts/impl.errBroken", laid_loop_example_lib_readerscripts_impl_errBroken), ("loop.example/lib-readerscripts/impl.errFull", laid_loop_example_lib_readerscripts_impl_errFull)] }
def FnLimitEndSaid : Prop := fnLimitEndRow.holds Tryd.pinned (OpenSpec.ofChange fnLimitEndSpec)

/-- ITS FALSE NEIGHBOUR: 'it returns false'. Refute it at one input. -/
def fnLimitEndWrong : ChangeSpec := { name := "fnLimitEnd", vars := ["loop.example/lib-readerscripts/impl.errBroken", "loop.example/lib-readerscripts/impl.errFull"], fn := fun _ => fun
  | [d, g1, g2] => { results := [.lit (.bool false)], args := [d], vars := [g1, g2] }
  | _ => none }
def FnLimitEndWrongFalsely : Prop := fnLimitEndRow.holds Tryd.pinned (OpenSpec.ofChange fnLimitEndWrong)

/-- 'laws.FnExactLimited': WHATEVER THE INPUT: true; the input reads as it did. -/
def fnExactLimitedSpec : ChangeSpec := { name := "fnExactLimited", vars := ["loop.example/lib-readerscripts/impl.errBroken", "loop.example/lib-readerscripts/impl.errFull"], fn := fun _ => fun
  | [d1, d2, d3, g1, g2] => { results := [.lit (.bool true)], args := [d1, d2, d3], vars := [g1, g2] }
  | _ => none }
def fnExactLimitedRow : OpenClaim := { program := "ytbddgkmkdjkloaadoor", sum := "703c7cc50078ad35c6833f7245fb49cb725060127184238f9465998a690a7dfe", func := "loop.example/lib-readerscripts/laws.FnExactLimited", spec := "fnExactLimited", unfollowed := true, recurses := true, named := ["io.EOF", "loop.example/lib-readerscripts/impl.errBroken", "loop.example/lib-readerscripts/impl.errFull", "io.ErrUnexpectedEOF", "io.ErrShortBuffer", "io.ErrShortWrite"], ifaces := true, apart := false, laid := [("io.ErrShortWrite", laid_io_ErrShortWrite), ("io.ErrShortBuffer", laid_io_ErrShortBuffer), ("io.EOF", laid_io_EOF), ("io.ErrUnexpectedEOF", laid_io_ErrUnexpectedEOF), ("loop.example/lib-readerscripts/impl.errBroken", laid_loop_example_lib_readerscripts_impl_errBroken), ("loop.example/lib-readerscripts/impl.errFull", laid_loop_example_lib_readerscripts_impl_errFull)] }
def FnExactLimitedSaid : Prop := fnExactLimitedRow.holds Tryd.pinned (OpenSpec.ofChange fnExactLimitedSpec)

/-- ITS FALSE NEIGHBOUR: 'it returns false'. Refute it at one input. -/
def fnExactLimitedWrong : ChangeSpec := { name := "fnExactLimited", vars := ["loop.example/lib-readerscripts/impl.errBroken", "loop.example/lib-readerscripts/impl.errFull"], fn := fun _ => fun
  | [d1, d2, d3, g1, g2] => { results := [.lit (.bool false)], args := [d1, d2, d3], vars := [g1, g2] }
  | _ => none }
def FnExactLimitedWrongFalsely : Prop := fnExactLimitedRow.holds Tryd.pinned (OpenSpec.ofChange fnExactLimitedWrong)

/-- 'laws.FnLimited': WHATEVER THE INPUT: true; the input reads as it did. -/
def fnLimitedSpec : ChangeSpec := { name := "fnLimited", vars := ["loop.example/lib-readerscripts/impl.errBroken", "loop.example/lib-readerscripts/impl.errFull"], fn := fun _ => fun
  | [d, g1, g2] => { results := [.lit (.bool true)], args := [d], vars := [g1, g2] }
  | _ => none }
def fnLimitedRow : OpenClaim := { program := "ytbddgkmkdjkloaadoor", sum := "703c7cc50078ad35c6833f7245fb49cb725060127184238f9465998a690a7dfe", func := "loop.example/lib-readerscripts/laws.FnLimited", spec := "fnLimited", unfollowed := true, recurses := true, named := ["io.EOF", "loop.example/lib-readerscripts/impl.errBroken", "loop.example/lib-readerscripts/impl.errFull", "io.ErrUnexpectedEOF", "io.ErrShortBuffer", "io.ErrShortWrite"], ifaces := true, apart := false, laid := [("io.ErrShortWrite", laid_io_ErrShortWrite), ("io.ErrShortBuffer", laid_io_ErrShortBuffer), ("io.EOF", laid_io_EOF), ("io.ErrUnexpectedEOF", laid_io_ErrUnexpectedEOF), ("loop.example/lib-readerscripts/impl.errBroken", laid_loop_example_lib_readerscripts_impl_errBroken), ("loop.example/lib-readerscripts/impl.errFull", laid_loop_example_lib_readerscripts_impl_errFull)] }
def FnLimitedSaid : Prop := fnLimitedRow.holds Tryd.pinned (OpenSpec.ofChange fnLimitedSpec)

/-- ITS FALSE NEIGHBOUR: 'it returns false'. Refute it at one input. -/
def fnLimitedWrong : ChangeSpec := { name := "fnLimited", vars := ["loop.example/lib-readerscripts/impl.errBroken", "loop.example/lib-readerscripts/impl.errFull"], fn := fun _ => fun
  | [d, g1, g2] => { results := [.lit (.bool false)], args := [d], vars := [g1, g2] }
  | _ => none }
def FnLimitedWrongFalsely : Prop := fnLimitedRow.holds Tryd.pinned (OpenSpec.ofChange fnLimitedWrong)

/-- 'laws.FnExactTee': WHATEVER THE INPUT: true; the input reads as it did. -/
def fnExactTeeSpec : ChangeSpec := { name := "fnExactTee", vars := ["loop.example/lib-readerscripts/impl.errBroken", "loop.example/lib-readerscripts/impl.errFull"], fn := fun _ => fun
  | [d1, d2, d3, g1, g2] => { results := [.lit (.bool true)], args := [d1, d2, d3], vars := [g1, g2] }
  | _ => none }
def fnExactTeeRow : OpenClaim := { program := "ytbddgkmkdjkloaadoor", sum := "703c7cc50078ad35c6833f7245fb49cb725060127184238f9465998a690a7dfe", func := "loop.example/lib-readerscripts/laws.FnExactTee", spec := "fnExactTee", unfollowed := true, recurses := true, named := ["io.EOF", "loop.example/lib-readerscripts/impl.errBroken", "loop.example/lib-readerscripts/impl.errFull", "io.ErrUnexpectedEOF", "io.ErrShortBuffer", "io.ErrShortWrite"], ifaces := true, apart := false, laid := [("io.ErrShortWrite", laid_io_ErrShortWrite), ("io.ErrShortBuffer", laid_io_ErrShortBuffer), ("io.EOF", laid_io_EOF), ("io.ErrUnexpectedEOF", laid_io_ErrUnexpectedEOF), ("loop.example/lib-readerscripts/impl.errBroken", laid_loop_example_lib_readerscripts_impl_errBroken), ("loop.example/lib-readerscripts/impl.errFull", laid_loop_example_lib_readerscripts_impl_errFull)] }
def FnExactTeeSaid : Prop := fnExactTeeRow.holds Tryd.pinned (OpenSpec.ofChange fnExactTeeSpec)

/-- ITS FALSE NEIGHBOUR: 'it returns false'. Refute it at one input. -/
def fnExactTeeWrong : ChangeSpec := { name := "fnExactTee", vars := ["loop.example/lib-readerscripts/impl.errBroken", "loop.example/lib-readerscripts/impl.errFull"], fn := fun _ => fun
  | [d1, d2, d3, g1, g2] => { results := [.lit (.bool false)], args := [d1, d2, d3], vars := [g1, g2] }
  | _ => none }
def FnExactTeeWrongFalsely : Prop := fnExactTeeRow.holds Tryd.pinned (OpenSpec.ofChange fnExactTeeWrong)

/-- 'laws.FnTee': WHATEVER THE INPUT: true; the input reads as it did. -/
def fnTeeSpec : ChangeSpec := { name := "fnTee", vars := ["loop.example/lib-readerscripts/impl.errBroken", "loop.example/lib-readerscripts/impl.errFull"], fn := fun _ => fun
  | [d, g1, g2] => { results := [.lit (.bool true)], args := [d], vars := [g1, g2] }
  | _ => none }
def fnTeeRow : OpenClaim := { program := "ytbddgkmkdjkloaadoor", sum := "703c7cc50078ad35c6833f7245fb49cb725060127184238f9465998a690a7dfe", func := "loop.example/lib-readerscripts/laws.FnTee", spec := "fnTee", unfollowed := true, recurses := true, named := ["io.EOF", "loop.example/lib-readerscripts/impl.errBroken", "loop.example/lib-readerscripts/impl.errFull", "io.ErrUnexpectedEOF", "io.ErrShortBuffer", "io.ErrShortWrite"], ifaces := true, apart := false, laid := [("io.ErrShortWrite", laid_io_ErrShortWrite), ("io.ErrShortBuffer", laid_io_ErrShortBuffer), ("io.EOF", laid_io_EOF), ("io.ErrUnexpectedEOF", laid_io_ErrUnexpectedEOF), ("loop.example/lib-readerscripts/impl.errBroken", laid_loop_example_lib_readerscripts_impl_errBroken), ("loop.example/lib-readerscripts/impl.errFull", laid_loop_example_lib_readerscripts_impl_errFull)] }
def FnTeeSaid : Prop := fnTeeRow.holds Tryd.pinned (OpenSpec.ofChange fnTeeSpec)

/-- ITS FALSE NEIGHBOUR: 'it returns false'. Refute it at one input. -/
def fnTeeWrong : ChangeSpec := { name := "fnTee", vars := ["loop.example/lib-readerscripts/impl.errBroken", "loop.example/lib-readerscripts/impl.errFull"], fn := fun _ => fun
  | [d, g1, g2] => { results := [.lit (.bool false)], args := [d], vars := [g1, g2] }
  | _ => none }
def FnTeeWrongFalsely : Prop := fnTeeRow.holds Tryd.pinned (OpenSpec.ofChange fnTeeWrong)

/-- 'laws.FnTeeData': WHATEVER THE INPUT: true; the input reads as it did. -/
def fnTeeDataSpec : ChangeSpec := { name := "fnTeeData", vars := ["loop.example/lib-readerscripts/impl.errBroken", "loop.example/lib-readerscripts/impl.errFull"], fn := fun _ => fun
  | [d, g1, g2] => { results := [.lit (.bool true)], args := [d], vars := [g1, g2] }
  | _ => none }
def fnTeeDataRow : OpenClaim := { program := "ytbddgkmkdjkloaadoor", sum := "703c7cc50078ad35c6833f7245fb49cb725060127184238f9465998a690a7dfe", func := "loop.example/lib-readerscripts/laws.FnTeeData", spec := "fnTeeData", unfollowed := true, recurses := true, named := ["io.EOF", "loop.example/lib-readerscripts/impl.errBroken", "loop.example/lib-readerscripts/impl.errFull", "io.ErrUnexpectedEOF", "io.ErrShortBuffer", "io.ErrShortWrite"], ifaces := true, apart := false, laid := [("io.ErrShortWrite", laid_io_ErrShortWrite), ("io.ErrShortBuffer", laid_io_ErrShortBuffer), ("io.EOF", laid_io_EOF), ("io.ErrUnexpectedEOF", laid_io_ErrUnexpectedEOF), ("loop.example/lib-readerscripts/impl.errBroken", laid_loop_example_lib_readerscripts_impl_errBroken), ("loop.example/lib-readerscripts/impl.errFull", laid_loop_example_lib_readerscripts_impl_errFull)] }
def FnTeeDataSaid : Prop := fnTeeDataRow.holds Tryd.pinned (OpenSpec.ofChange fnTeeDataSpec)

/-- ITS FALSE NEIGHBOUR: 'it returns false'. Refute it at one input. -/
def fnTeeDataWrong : ChangeSpec := { name := "fnTeeData", vars := ["loop.example/lib-readerscripts/impl.errBroken", "loop.example/lib-readerscripts/impl.errFull"], fn := fun _ => fun
  | [d, g1, g2] => { results := [.lit (.bool false)], args := [d], vars := [g1, g2] }
  | _ => none }
def FnTeeDataWrongFalsely : Prop := fnTeeDataRow.holds Tryd.pinned (OpenSpec.ofChange fnTeeDataWrong)

/-- 'laws.FnTeeFull': WHATEVER THE INPUT: true; the input reads as it did. -/
def fnTeeFullSpec : ChangeSpec := { name := "fnTeeFull", vars := ["loop.example/lib-readerscripts/impl.errBroken", "loop.example/lib-readerscripts/impl.errFull"], fn := fun _ => fun
  | [d, g1, g2] => { results := [.lit (.bool true)], args := [d], vars := [g1, g2] }
  | _ => none }
def fnTeeFullRow : OpenClaim := { program := "ytbddgkmkdjkloaadoor", sum := "703c7cc50078ad35c6833f7245fb49cb725060127184238f9465998a690a7dfe", func := "loop.example/lib-readerscripts/laws.FnTeeFull", spec := "fnTeeFull", unfollowed := true, recurses := true, named := ["io.EOF", "loop.example/lib-readerscripts/impl.errBroken", "loop.example/lib-readerscripts/impl.errFull", "io.ErrUnexpectedEOF", "io.ErrShortBuffer", "io.ErrShortWrite"], ifaces := true, apart := false, laid := [("io.ErrShortWrite", laid_io_ErrShortWrite), ("io.ErrShortBuffer", laid_io_ErrShortBuffer), ("io.EOF", laid_io_EOF), ("io.ErrUnexpectedEOF", laid_io_ErrUnexpectedEOF), ("loop.example/lib-readerscripts/impl.errBroken", laid_loop_example_lib_readerscripts_impl_errBroken), ("loop.example/lib-readerscripts/impl.errFull", laid_loop_example_lib_readerscripts_impl_errFull)] }
def FnTeeFullSaid : Prop := fnTeeFullRow.holds Tryd.pinned (OpenSpec.ofChange fnTeeFullSpec)

/-- ITS FALSE NEIGHBOUR: 'it returns false'. Refute it at one input. -/
def fnTeeFullWrong : ChangeSpec := { name := "fnTeeFull", vars := ["loop.example/lib-readerscripts/impl.errBroken", "loop.example/lib-readerscripts/impl.errFull"], fn := fun _ => fun
  | [d, g1, g2] => { results := [.lit (.bool false)], args := [d], vars := [g1, g2] }
  | _ => none }
def FnTeeFullWrongFalsely : Prop := fnTeeFullRow.holds Tryd.pinned (OpenSpec.ofChange fnTeeFullWrong)

/- THE SECOND FORM. 'bulk': how many values and letters a reading holds, each counted each time it is reached (what is shared counts as often as it is met; a slice's spare places count too). A statement '..UptoSaid' is the law's where the arguments, and the package variables that the reading takes, are together of bulk at most 1048576: NARROWER than '..Said'. Prove '..Said' where nothing that the law and all that it calls make is longer than what came in: it says more and counts as full. Else prove '..UptoSaid'. A law counts once. -/
mutual
def uptoBulk {H : Type} : DataW H → Nat
  | .lit (.string bytes) => bytes.length + 1
  | .lit _ => 1
  | .nil => 1
  | .ptr d => uptoBulk d + 1
  | .slice elems spare => uptoBulkAll elems + uptoBulkAll spare + 1
  | .agg parts => uptoBulkAll parts + 1
  | .iface _ d => uptoBulk d + 1
  | .map entries => uptoBulkEntries entries + 1
  | .held _ => 1
def uptoBulkAll {H : Type} : List (DataW H) → Nat
  | [] => 0
  | d :: r => uptoBulk d + uptoBulkAll r
def uptoBulkEntries {H : Type} : List (Lit × DataW H) → Nat
  | [] => 0
  | x :: r => uptoBulkEntry x + uptoBulkEntries r
def uptoBulkEntry {H : Type} : Lit × DataW H → Nat
  | (.string bytes, d) => bytes.length + uptoBulk d + 1
  | (_, d) => uptoBulk d + 1
 end
def uptoSmall : (H : Type) → List (DataW H) → Bool := fun _ ds => decide (uptoBulkAll ds ≤ 1048576)
def OpenSpec.upto (s : _root_.Go.ChangeSpec) : _root_.Go.OpenSpec := { _root_.Go.OpenSpec.ofChange s with cond := some uptoSmall }

/-- 'laws.FnExactLimit', WHERE WHAT IT READS IS OF BULK AT MOST 1048576: true; the input reads as it did. -/
def fnExactLimitUptoRow : OpenClaim := { program := "ytbddgkmkdjkloaadoor", sum := "703c7cc50078ad35c6833f7245fb49cb725060127184238f9465998a690a7dfe", func := "loop.example/lib-readerscripts/laws.FnExactLimit", spec := "fnExactLimit", unfollowed := true, recurses := true, named := ["io.EOF", "loop.example/lib-readerscripts/impl.errBroken", "loop.example/lib-readerscripts/impl.errFull", "io.ErrUnexpectedEOF", "io.ErrShortBuffer", "io.ErrShortWrite"], ifaces := true, apart := false, laid := [("io.ErrShortWrite", laid_io_ErrShortWrite), ("io.ErrShortBuffer", laid_io_ErrShortBuffer), ("io.EOF", laid_io_EOF), ("io.ErrUnexpectedEOF", laid_io_ErrUnexpectedEOF), ("loop.example/lib-readerscripts/impl.errBroken", laid_loop_example_lib_readerscripts_impl_errBroken), ("loop.example/lib-readerscripts/impl.errFull", laid_loop_example_lib_readerscripts_impl_errFull)], narrowed := true }
def FnExactLimitUptoSaid : Prop := fnExactLimitUptoRow.holds Tryd.pinned (OpenSpec.upto fnExactLimitSpec)

/-- 'laws.FnLimit', WHERE WHAT IT READS IS OF BULK AT MOST 1048576: true; the input reads as it did. -/
def fnLimitUptoRow : OpenClaim := { program := "ytbddgkmkdjkloaadoor", sum := "703c7cc50078ad35c6833f7245fb49cb725060127184238f9465998a690a7dfe", func := "loop.example/lib-readerscripts/laws.FnLimit", spec := "fnLimit", unfollowed := true, recurses := true, named := ["io.EOF", "loop.example/lib-readerscripts/impl.errBroken", "loop.example/lib-readerscripts/impl.errFull", "io.ErrUnexpectedEOF", "io.ErrShortBuffer", "io.ErrShortWrite"], ifaces := true, apart := false, laid := [("io.ErrShortWrite", laid_io_ErrShortWrite), ("io.ErrShortBuffer", laid_io_ErrShortBuffer), ("io.EOF", laid_io_EOF), ("io.ErrUnexpectedEOF", laid_io_ErrUnexpectedEOF), ("loop.example/lib-readerscripts/impl.errBroken", laid_loop_example_lib_readerscripts_impl_errBroken), ("loop.example/lib-readerscripts/impl.errFull", laid_loop_example_lib_readerscripts_impl_errFull)], narrowed := true }
def FnLimitUptoSaid : Prop := fnLimitUptoRow.holds Tryd.pinned (OpenSpec.upto fnLimitSpec)

/-- 'laws.FnLimitAll', WHERE WHAT IT READS IS OF BULK AT MOST 1048576: true; the input reads as it did. -/
def fnLimitAllUptoRow : OpenClaim := { program := "ytbddgkmkdjkloaadoor", sum := "703c7cc50078ad35c6833f7245fb49cb725060127184238f9465998a690a7dfe", func := "loop.example/lib-readerscripts/laws.FnLimitAll", spec := "fnLimitAll", unfollowed := true, recurses := true, named := ["io.EOF", "loop.example/lib-readerscripts/impl.errBroken", "loop.example/lib-readerscripts/impl.errFull", "io.ErrUnexpectedEOF", "io.ErrShortBuffer", "io.ErrShortWrite"], ifaces := true, apart := false, laid := [("io.ErrShortWrite", laid_io_ErrShortWrite), ("io.ErrShortBuffer", laid_io_ErrShortBuffer), ("io.EOF", laid_io_EOF), ("io.ErrUnexpectedEOF", laid_io_ErrUnexpectedEOF), ("loop.example/lib-readerscripts/impl.errBroken", laid_loop_example_lib_readerscripts_impl_errBroken), ("loop.example/lib-readerscripts/impl.errFull", laid_loop_example_lib_readerscripts_impl_errFull)], narrowed := true }
def FnLimitAllUptoSaid : Prop := fnLimitAllUptoRow.holds Tryd.pinned (OpenSpec.upto fnLimitAllSpec)

/-- 'laws.FnLimitData', WHERE WHAT IT READS IS OF BULK AT MOST 1048576: true; the input reads as it did. -/
def fnLimitDataUptoRow : OpenClaim := { program := "ytbddgkmkdjkloaadoor", sum := "703c7cc50078ad35c6833f7245fb49cb725060127184238f9465998a690a7dfe", func := "loop.example/lib-readerscripts/laws.FnLimitData", spec := "fnLimitData", unfollowed := true, recurses := true, named := ["io.EOF", "loop.example/lib-readerscripts/impl.errBroken", "loop.example/lib-readerscripts/impl.errFull", "io.ErrUnexpectedEOF", "io.ErrShortBuffer", "io.ErrShortWrite"], ifaces := true, apart := false, laid := [("io.ErrShortWrite", laid_io_ErrShortWrite), ("io.ErrShortBuffer", laid_io_ErrShortBuffer), ("io.EOF", laid_io_EOF), ("io.ErrUnexpectedEOF", laid_io_ErrUnexpectedEOF), ("loop.example/lib-readerscripts/impl.errBroken", laid_loop_example_lib_readerscripts_impl_errBroken), ("loop.example/lib-readerscripts/impl.errFull", laid_loop_example_lib_readerscripts_impl_errFull)], narrowed := true }
def FnLimitDataUptoSaid : Prop := fnLimitDataUptoRow.holds Tryd.pinned (OpenSpec.upto fnLimitDataSpec)

/-- 'laws.FnLimitEnd', WHERE WHAT IT READS IS OF BULK AT MOST 1048576: true; the input reads as it did. -/
def fnLimitEndUptoRow : OpenClaim := { program := "ytbddgkmkdjkloaadoor", sum := "703c7cc50078ad35c6833f7245fb49cb725060127184238f9465998a690a7dfe", func := "loop.example/lib-readerscripts/laws.FnLimitEnd", spec := "fnLimitEnd", unfollowed := true, recurses := true, named := ["io.EOF", "loop.example/lib-readerscripts/impl.errBroken", "loop.example/lib-readerscripts/impl.errFull", "io.ErrUnexpectedEOF", "io.ErrShortBuffer", "io.ErrShortWrite"], ifaces := true, apart := false, laid := [("io.ErrShortWrite", laid_io_ErrShortWrite), ("io.ErrShortBuffer", laid_io_ErrShortBuffer), ("io.EOF", laid_io_EOF), ("io.ErrUnexpectedEOF", laid_io_ErrUnexpectedEOF), ("loop.example/lib-readerscripts/impl.errBroken", laid_loop_example_lib_readerscripts_impl_errBroken), ("loop.example/lib-readerscripts/impl.errFull", laid_loop_example_lib_readerscripts_impl_errFull)], narrowed := true }
def FnLimitEndUptoSaid : Prop := fnLimitEndUptoRow.holds Tryd.pinned (OpenSpec.upto fnLimitEndSpec)

/-- 'laws.FnExactLimited', WHERE WHAT IT READS IS OF BULK AT MOST 1048576: true; the input reads as it did. -/
def fnExactLimitedUptoRow : OpenClaim := { program := "ytbddgkmkdjkloaadoor", sum := "703c7cc50078ad35c6833f7245fb49cb725060127184238f9465998a690a7dfe", func := "loop.example/lib-readerscripts/laws.FnExactLimited", spec := "fnExactLimited", unfollowed := true, recurses := true, named := ["io.EOF", "loop.example/lib-readerscripts/impl.errBroken", "loop.example/lib-readerscripts/impl.errFull", "io.ErrUnexpectedEOF", "io.ErrShortBuffer", "io.ErrShortWrite"], ifaces := true, apart := false, laid := [("io.ErrShortWrite", laid_io_ErrShortWrite), ("io.ErrShortBuffer", laid_io_ErrShortBuffer), ("io.EOF", laid_io_EOF), ("io.ErrUnexpectedEOF", laid_io_ErrUnexpectedEOF), ("loop.example/lib-readerscripts/impl.errBroken", laid_loop_example_lib_readerscripts_impl_errBroken), ("loop.example/lib-readerscripts/impl.errFull", laid_loop_example_lib_readerscripts_impl_errFull)], narrowed := true }
def FnExactLimitedUptoSaid : Prop := fnExactLimitedUptoRow.holds Tryd.pinned (OpenSpec.upto fnExactLimitedSpec)

/-- 'laws.FnLimited', WHERE WHAT IT READS IS OF BULK AT MOST 1048576: true; the input reads as it did. -/
def fnLimitedUptoRow : OpenClaim := { program := "ytbddgkmkdjkloaadoor", sum := "703c7cc50078ad35c6833f7245fb49cb725060127184238f9465998a690a7dfe", func := "loop.example/lib-readerscripts/laws.FnLimited", spec := "fnLimited", unfollowed := true, recurses := true, named := ["io.EOF", "loop.example/lib-readerscripts/impl.errBroken", "loop.example/lib-readerscripts/impl.errFull", "io.ErrUnexpectedEOF", "io.ErrShortBuffer", "io.ErrShortWrite"], ifaces := true, apart := false, laid := [("io.ErrShortWrite", laid_io_ErrShortWrite), ("io.ErrShortBuffer", laid_io_ErrShortBuffer), ("io.EOF", laid_io_EOF), ("io.ErrUnexpectedEOF", laid_io_ErrUnexpectedEOF), ("loop.example/lib-readerscripts/impl.errBroken", laid_loop_example_lib_readerscripts_impl_errBroken), ("loop.example/lib-readerscripts/impl.errFull", laid_loop_example_lib_readerscripts_impl_errFull)], narrowed := true }
def FnLimitedUptoSaid : Prop := fnLimitedUptoRow.holds Tryd.pinned (OpenSpec.upto fnLimitedSpec)

/-- 'laws.FnExactTee', WHERE WHAT IT READS IS OF BULK AT MOST 1048576: true; the input reads as it did. -/
def fnExactTeeUptoRow : OpenClaim := { program := "ytbddgkmkdjkloaadoor", sum := "703c7cc50078ad35c6833f7245fb49cb725060127184238f9465998a690a7dfe", func := "loop.example/lib-readerscripts/laws.FnExactTee", spec := "fnExactTee", unfollowed := true, recurses := true, named := ["io.EOF", "loop.example/lib-readerscripts/impl.errBroken", "loop.example/lib-readerscripts/impl.errFull", "io.ErrUnexpectedEOF", "io.ErrShortBuffer", "io.ErrShortWrite"], ifaces := true, apart := false, laid := [("io.ErrShortWrite", laid_io_ErrShortWrite), ("io.ErrShortBuffer", laid_io_ErrShortBuffer), ("io.EOF", laid_io_EOF), ("io.ErrUnexpectedEOF", laid_io_ErrUnexpectedEOF), ("loop.example/lib-readerscripts/impl.errBroken", laid_loop_example_lib_readerscripts_impl_errBroken), ("loop.example/lib-readerscripts/impl.errFull", laid_loop_example_lib_readerscripts_impl_errFull)], narrowed := true }
def FnExactTeeUptoSaid : Prop := fnExactTeeUptoRow.holds Tryd.pinned (OpenSpec.upto fnExactTeeSpec)

/-- 'laws.FnTee', WHERE WHAT IT READS IS OF BULK AT MOST 1048576: true; the input reads as it did. -/
def fnTeeUptoRow : OpenClaim := { program := "ytbddgkmkdjkloaadoor", sum := "703c7cc50078ad35c6833f7245fb49cb725060127184238f9465998a690a7dfe", func := "loop.example/lib-readerscripts/laws.FnTee", spec := "fnTee", unfollowed := true, recurses := true, named := ["io.EOF", "loop.example/lib-readerscripts/impl.errBroken", "loop.example/lib-readerscripts/impl.errFull", "io.ErrUnexpectedEOF", "io.ErrShortBuffer", "io.ErrShortWrite"], ifaces := true, apart := false, laid := [("io.ErrShortWrite", laid_io_ErrShortWrite), ("io.ErrShortBuffer", laid_io_ErrShortBuffer), ("io.EOF", laid_io_EOF), ("io.ErrUnexpectedEOF", laid_io_ErrUnexpectedEOF), ("loop.example/lib-readerscripts/impl.errBroken", laid_loop_example_lib_readerscripts_impl_errBroken), ("loop.example/lib-readerscripts/impl.errFull", laid_loop_example_lib_readerscripts_impl_errFull)], narrowed := true }
def FnTeeUptoSaid : Prop := fnTeeUptoRow.holds Tryd.pinned (OpenSpec.upto fnTeeSpec)

/-- 'laws.FnTeeData', WHERE WHAT IT READS IS OF BULK AT MOST 1048576: true; the input reads as it did. -/
def fnTeeDataUptoRow : OpenClaim := { program := "ytbddgkmkdjkloaadoor", sum := "703c7cc50078ad35c6833f7245fb49cb725060127184238f9465998a690a7dfe", func := "loop.example/lib-readerscripts/laws.FnTeeData", spec := "fnTeeData", unfollowed := true, recurses := true, named := ["io.EOF", "loop.example/lib-readerscripts/impl.errBroken", "loop.example/lib-readerscripts/impl.errFull", "io.ErrUnexpectedEOF", "io.ErrShortBuffer", "io.ErrShortWrite"], ifaces := true, apart := false, laid := [("io.ErrShortWrite", laid_io_ErrShortWrite), ("io.ErrShortBuffer", laid_io_ErrShortBuffer), ("io.EOF", laid_io_EOF), ("io.ErrUnexpectedEOF", laid_io_ErrUnexpectedEOF), ("loop.example/lib-readerscripts/impl.errBroken", laid_loop_example_lib_readerscripts_impl_errBroken), ("loop.example/lib-readerscripts/impl.errFull", laid_loop_example_lib_readerscripts_impl_errFull)], narrowed := true }
def FnTeeDataUptoSaid : Prop := fnTeeDataUptoRow.holds Tryd.pinned (OpenSpec.upto fnTeeDataSpec)

/-- 'laws.FnTeeFull', WHERE WHAT IT READS IS OF BULK AT MOST 1048576: true; the input reads as it did. -/
def fnTeeFullUptoRow : OpenClaim := { program := "ytbddgkmkdjkloaadoor", sum := "703c7cc50078ad35c6833f7245fb49cb725060127184238f9465998a690a7dfe", func := "loop.example/lib-readerscripts/laws.FnTeeFull", spec := "fnTeeFull", unfollowed := true, recurses := true, named := ["io.EOF", "loop.example/lib-readerscripts/impl.errBroken", "loop.example/lib-readerscripts/impl.errFull", "io.ErrUnexpectedEOF", "io.ErrShortBuffer", "io.ErrShortWrite"], ifaces := true, apart := false, laid := [("io.ErrShortWrite", laid_io_ErrShortWrite), ("io.ErrShortBuffer", laid_io_ErrShortBuffer), ("io.EOF", laid_io_EOF), ("io.ErrUnexpectedEOF", laid_io_ErrUnexpectedEOF), ("loop.example/lib-readerscripts/impl.errBroken", laid_loop_example_lib_readerscripts_impl_errBroken), ("loop.example/lib-readerscripts/impl.errFull", laid_loop_example_lib_readerscripts_impl_errFull)], narrowed := true }
def FnTeeFullUptoSaid : Prop := fnTeeFullUptoRow.holds Tryd.pinned (OpenSpec.upto fnTeeFullSpec)

end Rows
end Go.Proofs.YtbddgkmkdjkloaaDoor
