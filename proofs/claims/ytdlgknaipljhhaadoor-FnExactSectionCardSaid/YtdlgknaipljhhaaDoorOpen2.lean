/- How more arguments of the laws read: a number, a sink. -/
import Derived.Test.YtdlgknaipljhhaaDoorOpen
set_option linter.unusedVariables false
set_option linter.unusedSimpArgs false
namespace Go.Proofs.YtdlgknaipljhhaaDoor
open Go.ChangeShapes Go.WideShapes Go.ChangeAt Go.RowKit Go.Deep

theorem bounds_i64 {z : Int} (h : (Lit.int .i64 z).wf = true) : -9223372036854775808 ≤ z ∧ z ≤ 9223372036854775807 := by
  simp [Lit.wf, IntKind.min, IntKind.max, IntKind.bits, IntKind.signed] at h
  omega

section
variable {H : Type} {enc : TypeId × Value → H}

set_option maxRecDepth 100000 in
/-- an int that came in -/
theorem open_int {W : World} {base : Nat} {v : Value} {d : DataW H} {p : List MemPlace} (hv : Value.okWide Tryd.prog W .any base 3 v) (h : DataW.Trod enc Tryd.prog W 0 (fun _ => true) true 3 v d p) :
    ∃ z : Int, v = .int .i64 z ∧ -9223372036854775808 ≤ z ∧ z ≤ 9223372036854775807 := by
  obtain ⟨z, rfl⟩ := okWide_int Tryd.underlying3 hv
  obtain ⟨fuel, hf⟩ := h
  obtain ⟨z', e, _, hwf⟩ := DataW.trod_int Tryd.underlying3 hf
  obtain rfl : z = z' := by simpa [Value.cells] using e
  exact ⟨z, rfl, bounds_i64 hwf⟩

set_option maxRecDepth 100000 in
/-- an int64 that came in -/
theorem open_int64 {W : World} {base : Nat} {v : Value} {d : DataW H} {p : List MemPlace} (hv : Value.okWide Tryd.prog W .any base 2 v) (h : DataW.Trod enc Tryd.prog W 0 (fun _ => true) true 2 v d p) :
    ∃ z : Int, v = .int .i64 z ∧ -9223372036854775808 ≤ z ∧ z ≤ 9223372036854775807 := by
  obtain ⟨z, rfl⟩ := okWide_int Tryd.underlying2 hv
  obtain ⟨fuel, hf⟩ := h
  obtain ⟨z', e, _, hwf⟩ := DataW.trod_int Tryd.underlying2 hf
  obtain rfl : z = z' := by simpa [Value.cells] using e
  exact ⟨z, rfl, bounds_i64 hwf⟩

end

end Go.Proofs.YtdlgknaipljhhaaDoor
