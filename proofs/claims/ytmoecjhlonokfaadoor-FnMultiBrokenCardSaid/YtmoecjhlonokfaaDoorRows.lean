/-
  NARROWER THAN 'FOR EVERY INPUT', by the rows' own cells (each row's printed sentence says how): FnExactMultiWriter: ifaces, laid · FnMultiWriter: ifaces, laid · FnMultiWriterAll: ifaces, laid · FnMultiWriterStop: ifaces, laid · FnExactMulti: ifaces, laid · FnMulti: ifaces, laid · FnMultiBroken: ifaces, laid · FnMultiData: ifaces, laid · FnMultiNone: ifaces, laid.
  DERIVED. THE GIVEN ROWS OF THIS SEAT. 9 by the template 'for every input the law returns true; each argument reads behind the call as it read before'; 0 by the template 'total and deterministic' (their statements: YtmoecjhlonokfaaDoorTotals.lean).
  GIVEN WITH THE SEED: the statements are not yours to turn. If you find one false, say at which input.
  Laid BY PROGRAM, IN A SANDBOX (cutbox-rows.mjs): the forced cells as the released guide's own fill.sh prints them over the translation 62caa5cd765acdfd… (all of the seat's roots in one cut). By AI agents, Wed Nov 11 2026. No macro, syntax, notation, axiom, sorry.
-/
import Derived.Test.YtmoecjhlonokfaaDoorChecked
import GoSem.Claim
import GoSem.ClaimJoined
import GoSem.ClaimMapViews
import Derived.JoinedTies
import Derived.KernelRfl
namespace Go.Proofs.YtmoecjhlonokfaaDoor
/- THE CELL 'sum', in the pinned program and in every row, IS THE sha256 OF THE DUMP (.gsa) THAT YtmoecjhlonokfaaDoorProg.lean LOADS. Nothing in Lean hashes anything: it is a label: what it is worth is what the hold of that sum in a sandbox is worth. -/
noncomputable def Tryd.pinned : Pinned := { name := "ytmoecjhlonokfaadoor", sum := "62caa5cd765acdfd673d0b59ebcac547402a8f7f6a4eb4bcacdae919abe25b01", checked := Tryd.checked }
namespace Rows
def none {H : Type} : Left H := { results := [], args := [] }

/- WHAT THE LISTED PACKAGE-LEVEL VARIABLES READ AS WHEN THE CALL BEGINS. Each datum BY PROGRAM (the guide's laid-datum.mjs) off the statement by which the dump's own 'gosem.cut.vars' lays the variable. In a bare row this is a premise. The card (YtmoecjhlonokfaaDoorCards.lean) ties it to the program's text. -/
def laid_io_ErrShortWrite {H : Type} : DataW H := .iface "*errors.errorString" (.ptr (.agg [.lit (.string [115, 104, 111, 114, 116, 32, 119, 114, 105, 116, 101])]))
def laid_io_ErrShortBuffer {H : Type} : DataW H := .iface "*errors.errorString" (.ptr (.agg [.lit (.string [115, 104, 111, 114, 116, 32, 98, 117, 102, 102, 101, 114])]))
def laid_io_EOF {H : Type} : DataW H := .iface "*errors.errorString" (.ptr (.agg [.lit (.string [69, 79, 70])]))
def laid_io_ErrUnexpectedEOF {H : Type} : DataW H := .iface "*errors.errorString" (.ptr (.agg [.lit (.string [117, 110, 101, 120, 112, 101, 99, 116, 101, 100, 32, 69, 79, 70])]))
def laid_loop_example_lib_readerscripts_impl_errBroken {H : Type} : DataW H := .iface "*errors.errorString" (.ptr (.agg [.lit (.string [98, 114, 111, 107, 101, 110])]))
def laid_loop_example_lib_readerscripts_impl_errFull {H : Type} : DataW H := .iface "*errors.errorString" (.ptr (.agg [.lit (.string [102, 117, 108, 108])]))

/-- 'laws.FnExactMultiWriter': WHATEVER THE INPUT: true; the input reads as it did. -/
def fnExactMultiWriterSpec : ChangeSpec := { name := "fnExactMultiWriter", vars := ["loop.example/lib-readerscripts/impl.errBroken", "loop.example/lib-readerscripts/impl.errFull"], fn := fun _ => fun
  | [d1, d2, g1, g2] => { results := [.lit (.bool true)], args := [d1, d2], vars := [g1, g2] }
  | _ => none }
def fnExactMultiWriterRow : OpenClaim := { program := "ytmoecjhlonokfaadoor", sum := "62caa5cd765acdfd673d0b59ebcac547402a8f7f6a4eb4bcacdae919abe25b01", func := "loop.example/lib-readerscripts/laws.FnExactMultiWriter", spec := "fnExactMultiWriter", unfollowed := true, recurses := true, named := ["io.EOF", "loop.example/lib-readerscripts/impl.errBroken", "loop.example/lib-readerscripts/impl.errFull", "io.ErrUnexpectedEOF", "io.ErrShortBuffer", "io.ErrShortWrite"], ifaces := true, apart := false, laid := [("io.ErrShortWrite", laid_io_ErrShortWrite), ("io.ErrShortBuffer", laid_io_ErrShortBuffer), ("io.EOF", laid_io_EOF), ("io.ErrUnexpectedEOF", laid_io_ErrUnexpectedEOF), ("loop.example/lib-readerscripts/impl.errBroken", laid_loop_example_lib_readerscripts_impl_errBroken), ("loop.example/lib-readerscripts/impl.errFull", laid_loop_example_lib_readerscripts_impl_errFull)] }
def FnExactMultiWriterSaid : Prop := fnExactMultiWriterRow.holds Tryd.pinned (OpenSpec.ofChange fnExactMultiWriterSpec)

/-- ITS FALSE NEIGHBOUR: 'it returns false'. Refute it at one input. -/
def fnExactMultiWriterWrong : ChangeSpec := { name := "fnExactMultiWriter", vars := ["loop.example/lib-readerscripts/impl.errBroken", "loop.example/lib-readerscripts/impl.errFull"], fn := fun _ => fun
  | [d1, d2, g1, g2] => { results := [.lit (.bool false)], args := [d1, d2], vars := [g1, g2] }
  | _ => none }
def FnExactMultiWriterWrongFalsely : Prop := fnExactMultiWriterRow.holds Tryd.pinned (OpenSpec.ofChange fnExactMultiWriterWrong)

/-- 'laws.FnMultiWriter': WHATEVER THE INPUT: true; the input reads as it did. -/
def fnMultiWriterSpec : ChangeSpec := { name := "fnMultiWriter", vars := ["loop.example/lib-readerscripts/impl.errBroken", "loop.example/lib-readerscripts/impl.errFull"], fn := fun _ => fun
  | [d, g1, g2] => { results := [.lit (.bool true)], args := [d], vars := [g1, g2] }
  | _ => none }
def fnMultiWriterRow : OpenClaim := { program := "ytmoecjhlonokfaadoor", sum := "62caa5cd765acdfd673d0b59ebcac547402a8f7f6a4eb4bcacdae919abe25b01", func := "loop.example/lib-readerscripts/laws.FnMultiWriter", spec := "fnMultiWriter", unfollowed := true, recurses := true, named := ["io.EOF", "loop.example/lib-readerscripts/impl.errBroken", "loop.example/lib-readerscripts/impl.errFull", "io.ErrUnexpectedEOF", "io.ErrShortBuffer", "io.ErrShortWrite"], ifaces := true, apart := false, laid := [("io.ErrShortWrite", laid_io_ErrShortWrite), ("io.ErrShortBuffer", laid_io_ErrShortBuffer), ("io.EOF", laid_io_EOF), ("io.ErrUnexpectedEOF", laid_io_ErrUnexpectedEOF), ("loop.example/lib-readerscripts/impl.errBroken", laid_loop_example_lib_readerscripts_impl_errBroken), ("loop.example/lib-readerscripts/impl.errFull", laid_loop_example_lib_readerscripts_impl_errFull)] }
def FnMultiWriterSaid : Prop := fnMultiWriterRow.holds Tryd.pinned (OpenSpec.ofChange fnMultiWriterSpec)

/-- ITS FALSE NEIGHBOUR: 'it returns false'. Refute it at one input. -/
def fnMultiWriterWrong : ChangeSpec := { name := "fnMultiWriter", vars := ["loop.example/lib-readerscripts/impl.errBroken", "loop.example/lib-readerscripts/impl.errFull"], fn := fun _ => fun
  | [d, g1, g2] => { results := [.lit (.bool false)], args := [d], vars := [g1, g2] }
  | _ => none }
def FnMultiWriterWrongFalsely : Prop := fnMultiWriterRow.holds Tryd.pinned (OpenSpec.ofChange fnMultiWriterWrong)

/-- 'laws.FnMultiWriterAll': WHATEVER THE INPUT: true; the input reads as it did. -/
def fnMultiWriterAllSpec : ChangeSpec := { name := "fnMultiWriterAll", vars := ["loop.example/lib-readerscripts/impl.errBroken", "loop.example/lib-readerscripts/impl.errFull"], fn := fun _ => fun
  | [d, g1, g2] => { results := [.lit (.bool true)], args := [d], vars := [g1, g2] }
  | _ => none }
def fnMultiWriterAllRow : OpenClaim := { program := "ytmoecjhlonokfaadoor", sum := "62caa5cd765acdfd673d0b59ebcac547402a8f7f6a4eb4bcacdae919abe25b01", func := "loop.example/lib-readerscripts/laws.FnMultiWriterAll", spec := "fnMultiWriterAll", unfollowed := true, recurses := true, named := ["io.EOF", "loop.example/lib-readerscripts/impl.errBroken", "loop.example/lib-readerscripts/impl.errFull", "io.ErrUnexpectedEOF", "io.ErrShortBuffer", "io.ErrShortWrite"], ifaces := true, apart := false, laid := [("io.ErrShortWrite", laid_io_ErrShortWrite), ("io.ErrShortBuffer", laid_io_ErrShortBuffer), ("io.EOF", laid_io_EOF), ("io.ErrUnexpectedEOF", laid_io_ErrUnexpectedEOF), ("loop.example/lib-readerscripts/impl.errBroken", laid_loop_example_lib_readerscripts_impl_errBroken), ("loop.example/lib-readerscripts/impl.errFull", laid_loop_example_lib_readerscripts_impl_errFull)] }
def FnMultiWriterAllSaid : Prop := fnMultiWriterAllRow.holds Tryd.pinned (OpenSpec.ofChange fnMultiWriterAllSpec)

/-- ITS FALSE NEIGHBOUR: 'it returns false'. Refute it at one input. -/
def fnMultiWriterAllWrong : ChangeSpec := { name := "fnMultiWriterAll", vars := ["loop.example/lib-readerscripts/impl.errBroken", "loop.example/lib-readerscripts/impl.errFull"], fn := fun _ => fun
  | [d, g1, g2] => { results := [.lit (.bool false)], args := [d], vars := [g1, g2] }
  | _ => none }
def FnMultiWriterAllWrongFalsely : Prop := fnMultiWriterAllRow.holds Tryd.pinned (OpenSpec.ofChange fnMultiWriterAllWrong)

/-- 'laws.FnMultiWriterStop': WHATEVER THE INPUT: true; the input reads as it did. -/
def fnMultiWriterStopSpec : ChangeSpec := { name := "fnMultiWriterStop", vars := ["loop.example/lib-readerscripts/impl.errBroken", "loop.example/lib-readerscripts/impl.errFull"], fn := fun _ => fun
  | [d, g1, g2] => { results := [.lit (.bool true)], args := [d], vars := [g1, g2] }
  | _ => none }
def fnMultiWriterStopRow : OpenClaim := { program := "ytmoecjhlonokfaadoor", sum := "62caa5cd765acdfd673d0b59ebcac547402a8f7f6a4eb4bcacdae919abe25b01", func := "loop.example/lib-readerscripts/laws.FnMultiWriterStop", spec := "fnMultiWriterStop", unfollowed := true, recurses := true, named := ["io.EOF", "loop.example/lib-readerscripts/impl.errBroken", "loop.example/lib-readerscripts/impl.errFull", "io.ErrUnexpectedEOF", "io.ErrShortBuffer", "io.ErrShortWrite"], ifaces := true, apart := false, laid := [("io.ErrShortWrite", laid_io_ErrShortWrite), ("io.ErrShortBuffer", laid_io_ErrShortBuffer), ("io.EOF", laid_io_EOF), ("io.ErrUnexpectedEOF", laid_io_ErrUnexpectedEOF), ("loop.example/lib-readerscripts/impl.errBroken", laid_loop_example_lib_readerscripts_impl_errBroken), ("loop.example/lib-readerscripts/impl.errFull", laid_loop_example_lib_readerscripts_impl_errFull)] }
def FnMultiWriterStopSaid : Prop := fnMultiWriterStopRow.holds Tryd.pinned (OpenSpec.ofChange fnMultiWriterStopSpec)

/-- ITS FALSE NEIGHBOUR: 'it returns false'. Refute it at one input. -/
def fnMultiWriterStopWrong : ChangeSpec := { name := "fnMultiWriterStop", vars := ["loop.example/lib-readerscripts/impl.errBroken", "loop.example/lib-readerscripts/impl.errFull"], fn := fun _ => fun
  | [d, g1, g2] => { results := [.lit (.bool false)], args := [d], vars := [g1, g2] }
  | _ => none }
def FnMultiWriterStopWrongFalsely : Prop := fnMultiWriterStopRow.holds Tryd.pinned (OpenSpec.ofChange fnMultiWriterStopWrong)

/-- 'laws.FnExactMulti': WHATEVER THE INPUT: true; the input reads as it did. -/
def fnExactMultiSpec : ChangeSpec := { name := "fnExactMulti", vars := ["loop.example/lib-readerscripts/impl.errBroken", "loop.example/lib-readerscripts/impl.errFull"], fn := fun _ => fun
  | [d1, d2, g1, g2] => { results := [.lit (.bool true)], args := [d1, d2], vars := [g1, g2] }
  | _ => none }
def fnExactMultiRow : OpenClaim := { program := "ytmoecjhlonokfaadoor", sum := "62caa5cd765acdfd673d0b59ebcac547402a8f7f6a4eb4bcacdae919abe25b01", func := "loop.example/lib-readerscripts/laws.FnExactMulti", spec := "fnExactMulti", unfollowed := true, recurses := true, named := ["io.EOF", "loop.example/lib-readerscripts/impl.errBroken", "loop.example/lib-readerscripts/impl.errFull", "io.ErrUnexpectedEOF", "io.ErrShortBuffer", "io.ErrShortWrite"], ifaces := true, apart := false, laid := [("io.ErrShortWrite", laid_io_ErrShortWrite), ("io.ErrShortBuffer", laid_io_ErrShortBuffer), ("io.EOF", laid_io_EOF), ("io.ErrUnexpectedEOF", laid_io_ErrUnexpectedEOF), ("loop.example/lib-readerscripts/impl.errBroken", laid_loop_example_lib_readerscripts_impl_errBroken), ("loop.example/lib-readerscripts/impl.errFull", laid_loop_example_lib_readerscripts_impl_errFull)] }
def FnExactMultiSaid : Prop := fnExactMultiRow.holds Tryd.pinned (OpenSpec.ofChange fnExactMultiSpec)

/-- ITS FALSE NEIGHBOUR: 'it returns false'. Refute it at one input. -/
def fnExactMultiWrong : ChangeSpec := { name := "fnExactMulti", vars := ["loop.example/lib-readerscripts/impl.errBroken", "loop.example/lib-readerscripts/impl.errFull"], fn := fun _ => fun
  | [d1, d2, g1, g2] => { results := [.lit (.bool false)], args := [d1, d2], vars := [g1, g2] }
  | _ => none }
def FnExactMultiWrongFalsely : Prop := fnExactMultiRow.holds Tryd.pinned (OpenSpec.ofChange fnExactMultiWrong)

/-- 'laws.FnMulti': WHATEVER THE INPUT: true; the input reads as it did. -/
def fnMultiSpec : ChangeSpec := { name := "fnMulti", vars := ["loop.example/lib-readerscripts/impl.errBroken", "loop.example/lib-readerscripts/impl.errFull"], fn := fun _ => fun
  | [d, g1, g2] => { results := [.lit (.bool true)], args := [d], vars := [g1, g2] }
  | _ => none }
def fnMultiRow : OpenClaim := { program := "ytmoecjhlonokfaadoor", sum := "62caa5cd765acdfd673d0b59ebcac547402a8f7f6a4eb4bcacdae919abe25b01", func := "loop.example/lib-readerscripts/laws.FnMulti", spec := "fnMulti", unfollowed := true, recurses := true, named := ["io.EOF", "loop.example/lib-readerscripts/impl.errBroken", "loop.example/lib-readerscripts/impl.errFull", "io.ErrUnexpectedEOF", "io.ErrShortBuffer", "io.ErrShortWrite"], ifaces := true, apart := false, laid := [("io.ErrShortWrite", laid_io_ErrShortWrite), ("io.ErrShortBuffer", laid_io_ErrShortBuffer), ("io.EOF", laid_io_EOF), ("io.ErrUnexpectedEOF", laid_io_ErrUnexpectedEOF), ("loop.example/lib-readerscripts/impl.errBroken", laid_loop_example_lib_readerscripts_impl_errBroken), ("loop.example/lib-readerscripts/impl.errFull", laid_loop_example_lib_readerscripts_impl_errFull)] }
def FnMultiSaid : Prop := fnMultiRow.holds Tryd.pinned (OpenSpec.ofChange fnMultiSpec)

/-- ITS FALSE NEIGHBOUR: 'it returns false'. Refute it at one input. -/
def fnMultiWrong : ChangeSpec := { name := "fnMulti", vars := ["loop.example/lib-readerscripts/impl.errBroken", "loop.example/lib-readerscripts/impl.errFull"], fn := fun _ => fun
  | [d, g1, g2] => { results := [.lit (.bool false)], args := [d], vars := [g1, g2] }
  | _ => none }
def FnMultiWrongFalsely : Prop := fnMultiRow.holds Tryd.pinned (OpenSpec.ofChange fnMultiWrong)

/-- 'laws.FnMultiBroken': WHATEVER THE INPUT: true; the input reads as it did. -/
def fnMultiBrokenSpec : ChangeSpec := { name := "fnMultiBroken", vars := ["loop.example/lib-readerscripts/impl.errBroken", "loop.example/lib-readerscripts/impl.errFull"], fn := fun _ => fun
  | [d, g1, g2] => { results := [.lit (.bool true)], args := [d], vars := [g1, g2] }
  | _ => none }
def fnMultiBrokenRow : OpenClaim := { program := "ytmoecjhlonokfaadoor", sum := "62caa5cd765acdfd673d0b59ebcac547402a8f7f6a4eb4bcacdae919abe25b01", func := "loop.example/lib-readerscripts/laws.FnMultiBroken", spec := "fnMultiBroken", unfollowed := true, recurses := true, named := ["io.EOF", "loop.example/lib-readerscripts/impl.errBroken", "loop.example/lib-readerscripts/impl.errFull", "io.ErrUnexpectedEOF", "io.ErrShortBuffer", "io.ErrShortWrite"], ifaces := true, apart := false, laid := [("io.ErrShortWrite", laid_io_ErrShortWrite), ("io.ErrShortBuffer", laid_io_ErrShortBuffer), ("io.EOF", laid_io_EOF), ("io.ErrUnexpectedEOF", laid_io_ErrUnexpectedEOF), ("loop.example/lib-readerscripts/impl.errBroken", laid_loop_example_lib_readerscripts_impl_errBroken), ("loop.example/lib-readerscripts/impl.errFull", laid_loop_example_lib_readerscripts_impl_errFull)] }
def FnMultiBrokenSaid : Prop := fnMultiBrokenRow.holds Tryd.pinned (OpenSpec.ofChange fnMultiBrokenSpec)

/-- ITS FALSE NEIGHBOUR: 'it returns false'. Refute it at one input. -/
def fnMultiBrokenWrong : ChangeSpec := { name := "fnMultiBroken", vars := ["loop.example/lib-readerscripts/impl.errBroken", "loop.example/lib-readerscripts/impl.errFull"], fn := fun _ => fun
  | [d, g1, g2] => { results := [.lit (.bool false)], args := [d], vars := [g1, g2] }
  | _ => none }
def FnMultiBrokenWrongFalsely : Prop := fnMultiBrokenRow.holds Tryd.pinned (OpenSpec.ofChange fnMultiBrokenWrong)

/-- 'laws.FnMultiData': WHATEVER THE INPUT: true; the input reads as it did. -/
def fnMultiDataSpec : ChangeSpec := { name := "fnMultiData", vars := ["loop.example/lib-readerscripts/impl.errBroken", "loop.example/lib-readerscripts/impl.errFull"], fn := fun _ => fun
  | [d, g1, g2] => { results := [.lit (.bool true)], args := [d], vars := [g1, g2] }
  | _ => none }
def fnMultiDataRow : OpenClaim := { program := "ytmoecjhlonokfaadoor", sum := "62caa5cd765acdfd673d0b59ebcac547402a8f7f6a4eb4bcacdae919abe25b01", func := "loop.example/lib-readerscripts/laws.FnMultiData", spec := "fnMultiData", unfollowed := true, recurses := true, named := ["io.EOF", "loop.example/lib-readerscripts/impl.errBroken", "loop.example/lib-readerscripts/impl.errFull", "io.ErrUnexpectedEOF", "io.ErrShortBuffer", "io.ErrShortWrite"], ifaces := true, apart := false, laid := [("io.ErrShortWrite", laid_io_ErrShortWrite), ("io.ErrShortBuffer", laid_io_ErrShortBuffer), ("io.EOF", laid_io_EOF), ("io.ErrUnexpectedEOF", laid_io_ErrUnexpectedEOF), ("loop.example/lib-readerscripts/impl.errBroken", laid_loop_example_lib_readerscripts_impl_errBroken), ("loop.example/lib-readerscripts/impl.errFull", laid_loop_example_lib_readerscripts_impl_errFull)] }
def FnMultiDataSaid : Prop := fnMultiDataRow.holds Tryd.pinned (OpenSpec.ofChange fnMultiDataSpec)

/-- ITS FALSE NEIGHBOUR: 'it returns false'. Refute it at one input. -/
def fnMultiDataWrong : ChangeSpec := { name := "fnMultiData", vars := ["loop.example/lib-readerscripts/impl.errBroken", "loop.example/lib-readerscripts/impl.errFull"], fn := fun _ => fun
  | [d, g1, g2] => { results := [.lit (.bool false)], args := [d], vars := [g1, g2] }
  | _ => none }
def FnMultiDataWrongFalsely : Prop := fnMultiDataRow.holds Tryd.pinned (OpenSpec.ofChange fnMultiDataWrong)

/-- 'laws.FnMultiNone': WHATEVER THE INPUT: true; the input reads as it did. -/
def fnMultiNoneSpec : ChangeSpec := { name := "fnMultiNone", vars := ["loop.example/lib-readerscripts/impl.errBroken", "loop.example/lib-readerscripts/impl.errFull"], fn := fun _ => fun
  | [d, g1, g2] => { results := [.lit (.bool true)], args := [d], vars := [g1, g2] }
  | _ => none }
def fnMultiNoneRow : OpenClaim := { program := "ytmoecjhlonokfaadoor", sum := "62caa5cd765acdfd673d0b59ebcac547402a8f7f6a4eb4bcacdae919abe25b01", func := "loop.example/lib-readerscripts/laws.FnMultiNone", spec := "fnMultiNone", unfollowed := true, recurses := true, named := ["io.EOF", "loop.example/lib-readerscripts/impl.errBroken", "loop.example/lib-readerscripts/impl.errFull", "io.ErrUnexpectedEOF", "io.ErrShortBuffer", "io.ErrShortWrite"], ifaces := true, apart := false, laid := [("io.ErrShortWrite", laid_io_ErrShortWrite), ("io.ErrShortBuffer", laid_io_ErrShortBuffer), ("io.EOF", laid_io_EOF), ("io.ErrUnexpectedEOF", laid_io_ErrUnexpectedEOF), ("loop.example/lib-readerscripts/impl.errBroken", laid_loop_example_lib_readerscripts_impl_errBroken), ("loop.example/lib-readerscripts/impl.errFull", laid_loop_example_lib_readerscripts_impl_errFull)] }
def FnMultiNoneSaid : Prop := fnMultiNoneRow.holds Tryd.pinned (OpenSpec.ofChange fnMultiNoneSpec)

/-- ITS FALSE NEIGHBOUR: 'it returns false'. Refute it at one input. -/
def fnMultiNoneWrong : ChangeSpec := { name := "fnMultiNone", vars := ["loop.example/lib-readerscripts/impl.errBroken", "loop.example/lib-readerscripts/impl.errFull"], fn := fun _ => fun
  | [d, g1, g2] => { results := [.lit (.bool false)], args := [d], vars := [g1, g2] }
  | _ => none }
def FnMultiNoneWrongFalsely : Prop := fnMultiNoneRow.holds Tryd.pinned (OpenSpec.ofChange fnMultiNoneWrong)

/- THE SECOND FORM. 'bulk': how many values and letters a reading holds, each counted each time it is reached (what is shared counts as often as it is met; a slice's spare places count too). A statement '..UptoSaid' is the law's where the arguments, and the package variables that the reading takes, are together of bulk at most 1048576: NARROWER than '..Said'. Prove '..Said' where nothing that the law and all that it calls make is longer than what came in: it says more and counts as full. Else prove '..UptoSaid'. A law counts once. -/
mutual
def uptoBulk {H : Type} : DataW H → Nat
  | .lit (.string bytes) => bytes.length + 1
  | .lit _ => 1
  | .nil => 1
  | .ptr d => uptoBulk d + 1
  | .slice elems spare => uptoBulkAll elems + uptoBulkAll spare + 1
  | .agg parts => uptoBulkAll parts + 1
  | .iface _ d => uptoBulk d + 1
  | .map entries => uptoBulkEntries entries + 1
  | .held _ => 1
def uptoBulkAll {H : Type} : List (DataW H) → Nat
  | [] => 0
  | d :: r => uptoBulk d + uptoBulkAll r
def uptoBulkEntries {H : Type} : List (Lit × DataW H) → Nat
  | [] => 0
  | x :: r => uptoBulkEntry x + uptoBulkEntries r
def uptoBulkEntry {H : Type} : Lit × DataW H → Nat
  | (.string bytes, d) => bytes.length + uptoBulk d + 1
  | (_, d) => uptoBulk d + 1
 end
def uptoSmall : (H : Type) → List (DataW H) → Bool := fun _ ds => decide (uptoBulkAll ds ≤ 1048576)
def OpenSpec.upto (s : _root_.Go.ChangeSpec) : _root_.Go.OpenSpec := { _root_.Go.OpenSpec.ofChange s with cond := some uptoSmall }

/-- 'laws.FnExactMultiWriter', WHERE WHAT IT READS IS OF BULK AT MOST 1048576: true; the input reads as it did. -/
def fnExactMultiWriterUptoRow : OpenClaim := { program := "ytmoecjhlonokfaadoor", sum := "62caa5cd765acdfd673d0b59ebcac547402a8f7f6a4eb4bcacdae919abe25b01", func := "loop.example/lib-readerscripts/laws.FnExactMultiWriter", spec := "fnExactMultiWriter", unfollowed := true, recurses := true, named := ["io.EOF", "loop.example/lib-readerscripts/impl.errBroken", "loop.example/lib-readerscripts/impl.errFull", "io.ErrUnexpectedEOF", "io.ErrShortBuffer", "io.ErrShortWrite"], ifaces := true, apart := false, laid := [("io.ErrShortWrite", laid_io_ErrShortWrite), ("io.ErrShortBuffer", laid_io_ErrShortBuffer), ("io.EOF", laid_io_EOF), ("io.ErrUnexpectedEOF", laid_io_ErrUnexpectedEOF), ("loop.example/lib-readerscripts/impl.errBroken", laid_loop_example_lib_readerscripts_impl_errBroken), ("loop.example/lib-readerscripts/impl.errFull", laid_loop_example_lib_readerscripts_impl_errFull)], narrowed := true }
def FnExactMultiWriterUptoSaid : Prop := fnExactMultiWriterUptoRow.holds Tryd.pinned (OpenSpec.upto fnExactMultiWriterSpec)

/-- 'laws.FnMultiWriter', WHERE WHAT IT READS IS OF BULK AT MOST 1048576: true; the input reads as it did. -/
def fnMultiWriterUptoRow : OpenClaim := { program := "ytmoecjhlonokfaadoor", sum := "62caa5cd765acdfd673d0b59ebcac547402a8f7f6a4eb4bcacdae919abe25b01", func := "loop.example/lib-readerscripts/laws.FnMultiWriter", spec := "fnMultiWriter", unfollowed := true, recurses := true, named := ["io.EOF", "loop.example/lib-readerscripts/impl.errBroken", "loop.example/lib-readerscripts/impl.errFull", "io.ErrUnexpectedEOF", "io.ErrShortBuffer", "io.ErrShortWrite"], ifaces := true, apart := false, laid := [("io.ErrShortWrite", laid_io_ErrShortWrite), ("io.ErrShortBuffer", laid_io_ErrShortBuffer), ("io.EOF", laid_io_EOF), ("io.ErrUnexpectedEOF", laid_io_ErrUnexpectedEOF), ("loop.example/lib-readerscripts/impl.errBroken", laid_loop_example_lib_readerscripts_impl_errBroken), ("loop.example/lib-readerscripts/impl.errFull", laid_loop_example_lib_readerscripts_impl_errFull)], narrowed := true }
def FnMultiWriterUptoSaid : Prop := fnMultiWriterUptoRow.holds Tryd.pinned (OpenSpec.upto fnMultiWriterSpec)

/-- 'laws.FnMultiWriterAll', WHERE WHAT IT READS IS OF BULK AT MOST 1048576: true; the input reads as it did. -/
def fnMultiWriterAllUptoRow : OpenClaim := { program := "ytmoecjhlonokfaadoor", sum := "62caa5cd765acdfd673d0b59ebcac547402a8f7f6a4eb4bcacdae919abe25b01", func := "loop.example/lib-readerscripts/laws.FnMultiWriterAll", spec := "fnMultiWriterAll", unfollowed := true, recurses := true, named := ["io.EOF", "loop.example/lib-readerscripts/impl.errBroken", "loop.example/lib-readerscripts/impl.errFull", "io.ErrUnexpectedEOF", "io.ErrShortBuffer", "io.ErrShortWrite"], ifaces := true, apart := false, laid := [("io.ErrShortWrite", laid_io_ErrShortWrite), ("io.ErrShortBuffer", laid_io_ErrShortBuffer), ("io.EOF", laid_io_EOF), ("io.ErrUnexpectedEOF", laid_io_ErrUnexpectedEOF), ("loop.example/lib-readerscripts/impl.errBroken", laid_loop_example_lib_readerscripts_impl_errBroken), ("loop.example/lib-readerscripts/impl.errFull", laid_loop_example_lib_readerscripts_impl_errFull)], narrowed := true }
def FnMultiWriterAllUptoSaid : Prop := fnMultiWriterAllUptoRow.holds Tryd.pinned (OpenSpec.upto fnMultiWriterAllSpec)

/-- 'laws.FnMultiWriterStop', WHERE WHAT IT READS IS OF BULK AT MOST 1048576: true; the input reads as it did. -/
def fnMultiWriterStopUptoRow : OpenClaim := { program := "ytmoecjhlonokfaadoor", sum := "62caa5cd765acdfd673d0b59ebcac547402a8f7f6a4eb4bcacdae919abe25b01", func := "loop.example/lib-readerscripts/laws.FnMultiWriterStop", spec := "fnMultiWriterStop", unfollowed := true, recurses := true, named := ["io.EOF", "loop.example/lib-readerscripts/impl.errBroken", "loop.example/lib-readerscripts/impl.errFull", "io.ErrUnexpectedEOF", "io.ErrShortBuffer", "io.ErrShortWrite"], ifaces := true, apart := false, laid := [("io.ErrShortWrite", laid_io_ErrShortWrite), ("io.ErrShortBuffer", laid_io_ErrShortBuffer), ("io.EOF", laid_io_EOF), ("io.ErrUnexpectedEOF", laid_io_ErrUnexpectedEOF), ("loop.example/lib-readerscripts/impl.errBroken", laid_loop_example_lib_readerscripts_impl_errBroken), ("loop.example/lib-readerscripts/impl.errFull", laid_loop_example_lib_readerscripts_impl_errFull)], narrowed := true }
def FnMultiWriterStopUptoSaid : Prop := fnMultiWriterStopUptoRow.holds Tryd.pinned (OpenSpec.upto fnMultiWriterStopSpec)

/-- 'laws.FnExactMulti', WHERE WHAT IT READS IS OF BULK AT MOST 1048576: true; the input reads as it did. -/
def fnExactMultiUptoRow : OpenClaim := { program := "ytmoecjhlonokfaadoor", sum := "62caa5cd765acdfd673d0b59ebcac547402a8f7f6a4eb4bcacdae919abe25b01", func := "loop.example/lib-readerscripts/laws.FnExactMulti", spec := "fnExactMulti", unfollowed := true, recurses := true, named := ["io.EOF", "loop.example/lib-readerscripts/impl.errBroken", "loop.example/lib-readerscripts/impl.errFull", "io.ErrUnexpectedEOF", "io.ErrShortBuffer", "io.ErrShortWrite"], ifaces := true, apart := false, laid := [("io.ErrShortWrite", laid_io_ErrShortWrite), ("io.ErrShortBuffer", laid_io_ErrShortBuffer), ("io.EOF", laid_io_EOF), ("io.ErrUnexpectedEOF", laid_io_ErrUnexpectedEOF), ("loop.example/lib-readerscripts/impl.errBroken", laid_loop_example_lib_readerscripts_impl_errBroken), ("loop.example/lib-readerscripts/impl.errFull", laid_loop_example_lib_readerscripts_impl_errFull)], narrowed := true }
def FnExactMultiUptoSaid : Prop := fnExactMultiUptoRow.holds Tryd.pinned (OpenSpec.upto fnExactMultiSpec)

/-- 'laws.FnMulti', WHERE WHAT IT READS IS OF BULK AT MOST 1048576: true; the input reads as it did. -/
def fnMultiUptoRow : OpenClaim := { program := "ytmoecjhlonokfaadoor", sum := "62caa5cd765acdfd673d0b59ebcac547402a8f7f6a4eb4bcacdae919abe25b01", func := "loop.example/lib-readerscripts/laws.FnMulti", spec := "fnMulti", unfollowed := true, recurses := true, named := ["io.EOF", "loop.example/lib-readerscripts/impl.errBroken", "loop.example/lib-readerscripts/impl.errFull", "io.ErrUnexpectedEOF", "io.ErrShortBuffer", "io.ErrShortWrite"], ifaces := true, apart := false, laid := [("io.ErrShortWrite", laid_io_ErrShortWrite), ("io.ErrShortBuffer", laid_io_ErrShortBuffer), ("io.EOF", laid_io_EOF), ("io.ErrUnexpectedEOF", laid_io_ErrUnexpectedEOF), ("loop.example/lib-readerscripts/impl.errBroken", laid_loop_example_lib_readerscripts_impl_errBroken), ("loop.example/lib-readerscripts/impl.errFull", laid_loop_example_lib_readerscripts_impl_errFull)], narrowed := true }
def FnMultiUptoSaid : Prop := fnMultiUptoRow.holds Tryd.pinned (OpenSpec.upto fnMultiSpec)

/-- 'laws.FnMultiBroken', WHERE WHAT IT READS IS OF BULK AT MOST 1048576: true; the input reads as it did. -/
def fnMultiBrokenUptoRow : OpenClaim := { program := "ytmoecjhlonokfaadoor", sum := "62caa5cd765acdfd673d0b59ebcac547402a8f7f6a4eb4bcacdae919abe25b01", func := "loop.example/lib-readerscripts/laws.FnMultiBroken", spec := "fnMultiBroken", unfollowed := true, recurses := true, named := ["io.EOF", "loop.example/lib-readerscripts/impl.errBroken", "loop.example/lib-readerscripts/impl.errFull", "io.ErrUnexpectedEOF", "io.ErrShortBuffer", "io.ErrShortWrite"], ifaces := true, apart := false, laid := [("io.ErrShortWrite", laid_io_ErrShortWrite), ("io.ErrShortBuffer", laid_io_ErrShortBuffer), ("io.EOF", laid_io_EOF), ("io.ErrUnexpectedEOF", laid_io_ErrUnexpectedEOF), ("loop.example/lib-readerscripts/impl.errBroken", laid_loop_example_lib_readerscripts_impl_errBroken), ("loop.example/lib-readerscripts/impl.errFull", laid_loop_example_lib_readerscripts_impl_errFull)], narrowed := true }
def FnMultiBrokenUptoSaid : Prop := fnMultiBrokenUptoRow.holds Tryd.pinned (OpenSpec.upto fnMultiBrokenSpec)

/-- 'laws.FnMultiData', WHERE WHAT IT READS IS OF BULK AT MOST 1048576: true; the input reads as it did. -/
def fnMultiDataUptoRow : OpenClaim := { program := "ytmoecjhlonokfaadoor", sum := "62caa5cd765acdfd673d0b59ebcac547402a8f7f6a4eb4bcacdae919abe25b01", func := "loop.example/lib-readerscripts/laws.FnMultiData", spec := "fnMultiData", unfollowed := true, recurses := true, named := ["io.EOF", "loop.example/lib-readerscripts/impl.errBroken", "loop.example/lib-readerscripts/impl.errFull", "io.ErrUnexpectedEOF", "io.ErrShortBuffer", "io.ErrShortWrite"], ifaces := true, apart := false, laid := [("io.ErrShortWrite", laid_io_ErrShortWrite), ("io.ErrShortBuffer", laid_io_ErrShortBuffer), ("io.EOF", laid_io_EOF), ("io.ErrUnexpectedEOF", laid_io_ErrUnexpectedEOF), ("loop.example/lib-readerscripts/impl.errBroken", laid_loop_example_lib_readerscripts_impl_errBroken), ("loop.example/lib-readerscripts/impl.errFull", laid_loop_example_lib_readerscripts_impl_errFull)], narrowed := true }
def FnMultiDataUptoSaid : Prop := fnMultiDataUptoRow.holds Tryd.pinned (OpenSpec.upto fnMultiDataSpec)

/-- 'laws.FnMultiNone', WHERE WHAT IT READS IS OF BULK AT MOST 1048576: true; the input reads as it did. -/
def fnMultiNoneUptoRow : OpenClaim := { program := "ytmoecjhlonokfaadoor", sum := "62caa5cd765acdfd673d0b59ebcac547402a8f7f6a4eb4bcacdae919abe25b01", func := "loop.example/lib-readerscripts/laws.FnMultiNone", spec := "fnMultiNone", unfollowed := true, recurses := true, named := ["io.EOF", "loop.example/lib-readerscripts/impl.errBroken", "loop.example/lib-readerscripts/impl.errFull", "io.ErrUnexpectedEOF", "io.ErrShortBuffer", "io.ErrShortWrite"], ifaces := true, apart := false, laid := [("io.ErrShortWrite", laid_io_ErrShortWrite), ("io.ErrShortBuffer", laid_io_ErrShortBuffer), ("io.EOF", laid_io_EOF), ("io.ErrUnexpectedEOF", laid_io_ErrUnexpectedEOF), ("loop.example/lib-readerscripts/impl.errBroken", laid_loop_example_lib_readerscripts_impl_errBroken), ("loop.example/lib-readerscripts/impl.errFull", laid_loop_example_lib_readerscripts_impl_errFull)], narrowed := true }
def FnMultiNoneUptoSaid : Prop := fnMultiNoneUptoRow.holds Tryd.pinned (OpenSpec.upto fnMultiNoneSpec)

end Rows
end Go.Proofs.YtmoecjhlonokfaaDoor
